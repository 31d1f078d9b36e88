import PyProof.Rows.All
import Wide.All
import OpenK.AllK
import Wide.FinOn
import PySem.Challenge.RW_qu0033_01
set_option Elab.async false
section PartHd
open PySem PySem.W PyProof.Rows
namespace Mine
set_option maxRecDepth 100000 in
set_option maxHeartbeats 8000000 in
open_top hd for PySem.Challenge.rw_qu0033_01
end Mine
end PartHd
section PartCo
open PySem PySem.W PyProof.Rows
set_option linter.unusedVariables false
namespace Mine

/- which float a token stands for -/
abbrev TM := Tok → Option UInt64
noncomputable def TM.le (τ τ' : TM) : Prop := ∀ t u, τ t = some u → τ' t = some u
theorem TM.le.refl (τ : TM) : τ.le τ := fun _ _ e => e
theorem TM.le.trans {a b d : TM} (x : a.le b) (y : b.le d) : a.le d := fun t u e => y t u (x t u e)
noncomputable def TM.put (τ : TM) (t : Tok) (u : UInt64) : TM := fun s => if s = t then some u else τ s

/- values without their tokens -/
inductive V where
  | none | bool (b : Bool) | int (i : Int) | flt (u : UInt64) | str (s : Str) | ref (a : Addr) | bi (id : String) | ty (n : String)

noncomputable def V.is (τ : TM) : V → Value → Prop
  | .none, v => v = .none
  | .bool b, v => v = .bool b
  | .int i, v => ∃ t, v = .int i t
  | .flt u, v => ∃ t, v = .float u t ∧ τ t = some u ∧ t ≠ 0
  | .str s, v => ∃ t, v = .str s t
  | .ref a, v => v = .ref a
  | .bi id, v => v = .builtin id
  | .ty n, v => v = .type n
theorem V.is.mono {τ τ' : TM} (l : τ.le τ') : ∀ {d : V} {v : Value}, d.is τ v → d.is τ' v
  | .none, _, h => h
  | .bool _, _, h => h
  | .int _, _, h => h
  | .flt _, _, ⟨t, e, h, z⟩ => ⟨t, e, l _ _ h, z⟩
  | .str _, _, h => h
  | .ref _, _, h => h
  | .bi _, _, h => h
  | .ty _, _, h => h

noncomputable def VS (τ : TM) : List V → List Value → Prop
  | [], [] => True
  | d :: ds, v :: vs => d.is τ v ∧ VS τ ds vs
  | _, _ => False
section
variable {τ τ' : TM}
theorem VS.mono (l : τ.le τ') : ∀ {ds : List V} {vs : List Value}, VS τ ds vs → VS τ' ds vs
  | [], [], h => h
  | _ :: _, _ :: _, h => ⟨h.1.mono l, VS.mono l h.2⟩
  | [], _ :: _, h => h.elim
  | _ :: _, [], h => h.elim
theorem VS.length : ∀ {ds : List V} {vs : List Value}, VS τ ds vs → vs.length = ds.length
  | [], [], _ => rfl
  | _ :: _, _ :: _, h => congrArg (· + 1) (VS.length h.2)
  | [], _ :: _, h => h.elim
  | _ :: _, [], h => h.elim
theorem VS.get : ∀ {ds : List V} {vs : List Value}, VS τ ds vs → ∀ {i : Nat} {d : V}, ds[i]? = some d → ∃ v, vs[i]? = some v ∧ d.is τ v
  | d :: _, v :: _, h, 0, _, e => by
    simp only [List.getElem?_cons_zero, Option.some.injEq] at e; subst e
    exact ⟨v, rfl, h.1⟩
  | _ :: _, _ :: _, h, i + 1, _, e => VS.get h.2 (by simpa using e)
  | [], [], _, _, _, e => by simp at e
  | [], _ :: _, h, _, _, _ => h.elim
  | _ :: _, [], h, _, _, _ => h.elim
theorem VS.get' : ∀ {ds : List V} {vs : List Value}, VS τ ds vs → ∀ {i : Nat} {v : Value}, vs[i]? = some v → ∃ d, ds[i]? = some d ∧ d.is τ v
  | d :: _, v :: _, h, 0, _, e => by
    simp only [List.getElem?_cons_zero, Option.some.injEq] at e; subst e
    exact ⟨d, rfl, h.1⟩
  | _ :: _, _ :: _, h, i + 1, _, e => VS.get' h.2 (by simpa using e)
  | [], [], _, _, _, e => by simp at e
  | [], _ :: _, h, _, _, _ => h.elim
  | _ :: _, [], h, _, _, _ => h.elim
theorem VS.append : ∀ {ds es : List V} {vs ws : List Value}, VS τ ds vs → VS τ es ws → VS τ (ds ++ es) (vs ++ ws)
  | [], _, [], _, _, h => h
  | _ :: _, _, _ :: _, _, h, h' => ⟨h.1, VS.append h.2 h'⟩
  | [], _, _ :: _, _, h, _ => h.elim
  | _ :: _, _, [], _, h, _ => h.elim
theorem VS.set : ∀ {ds : List V} {vs : List Value}, VS τ ds vs → ∀ {i : Nat} {d : V} {v : Value}, d.is τ v → VS τ (ds.set i d) (vs.set i v)
  | [], [], h, _, _, _, _ => h
  | _ :: _, _ :: _, h, 0, _, _, e => ⟨e, h.2⟩
  | _ :: _, _ :: _, h, _ + 1, _, _, e => ⟨h.1, VS.set h.2 e⟩
  | [], _ :: _, h, _, _, _, _ => h.elim
  | _ :: _, [], h, _, _, _, _ => h.elim
theorem VS.dropLast : ∀ {ds : List V} {vs : List Value}, VS τ ds vs → VS τ ds.dropLast vs.dropLast
  | [], [], h => h
  | [_], [_], _ => trivial
  | _ :: _ :: _, _ :: _ :: _, h => ⟨h.1, VS.dropLast (ds := _ :: _) (vs := _ :: _) h.2⟩
  | [_], _ :: _ :: _, h => h.2.elim
  | _ :: _ :: _, [_], h => h.2.elim
  | [], _ :: _, h => h.elim
  | _ :: _, [], h => h.elim
theorem VS.of_get {ds : List V} {vs : List Value} (hl : vs.length = ds.length) (h : ∀ (i : Nat) d v, ds[i]? = some d → vs[i]? = some v → d.is τ v) : VS τ ds vs := by
  induction ds generalizing vs with
  | nil => cases vs with | nil => exact trivial | cons _ _ => simp at hl
  | cons d ds ih => cases vs with
    | nil => simp at hl
    | cons v vs => exact ⟨h 0 d v rfl rfl, ih (by simpa using hl) fun i d' v' h1 h2 => h (i + 1) d' v' (by simpa using h1) (by simpa using h2)⟩
theorem hideG {T : Prop} (h : ∀ G : Prop, (T → G) → G) : T := h T id
theorem vs1 {vs : List Value} (h : vs.length = 1) : ∃ a, vs = [a] := by
  cases vs with
  | nil => cases h
  | cons a r => exact ⟨a, by rw [List.eq_nil_of_length_eq_zero (Nat.succ.inj h)]⟩
theorem vs2 {vs : List Value} (h : vs.length = 2) : ∃ a b, vs = [a, b] := by
  cases vs with
  | nil => cases h
  | cons a r => exact (vs1 (Nat.succ.inj h)).elim fun b e => ⟨a, b, by rw [e]⟩
theorem vs3 {vs : List Value} (h : vs.length = 3) : ∃ a b d, vs = [a, b, d] := by
  cases vs with
  | nil => cases h
  | cons a r => exact (vs2 (Nat.succ.inj h)).elim fun b e => e.elim fun d e => ⟨a, b, d, by rw [e]⟩
theorem VS.one {a : V} : ∀ {vs : List Value}, VS τ [a] vs → ∃ v, vs = [v] ∧ a.is τ v
  | [v], h => ⟨v, rfl, h.1⟩
  | [], h => h.elim
  | _ :: _ :: _, h => h.2.elim
theorem VS.two {a b : V} : ∀ {vs : List Value}, VS τ [a, b] vs → ∃ v u, vs = [v, u] ∧ a.is τ v ∧ b.is τ u
  | [v, u], h => ⟨v, u, rfl, h.1, h.2.1⟩
  | [], h => h.elim
  | [_], h => h.2.elim
  | _ :: _ :: _ :: _, h => h.2.2.elim
theorem VS.three {a b d : V} : ∀ {vs : List Value}, VS τ [a, b, d] vs → ∃ v u x, vs = [v, u, x] ∧ a.is τ v ∧ b.is τ u ∧ d.is τ x
  | [v, u, x], h => ⟨v, u, x, rfl, h.1, h.2.1, h.2.2.1⟩
  | [], h => h.elim
  | [_], h => h.2.elim
  | [_, _], h => h.2.2.elim
  | _ :: _ :: _ :: _ :: _, h => h.2.2.2.elim
end
noncomputable def KV (τ : TM) : List (Str × V) → List (Str × Value) → Prop
  | [], [] => True
  | d :: ds, v :: vs => d.1 = v.1 ∧ d.2.is τ v.2 ∧ KV τ ds vs
  | _, _ => False
theorem KV.mono {τ τ' : TM} (l : τ.le τ') : ∀ {ds : List (Str × V)} {vs : List (Str × Value)}, KV τ ds vs → KV τ' ds vs
  | [], [], h => h
  | _ :: _, _ :: _, h => ⟨h.1, h.2.1.mono l, KV.mono l h.2.2⟩
  | [], _ :: _, h => h.elim
  | _ :: _, [], h => h.elim

/- objects without tokens and epochs -/
inductive AO where
  | list (ds : List V) | tup (ds : List V) | dict (es : List (Str × V)) | cell (d : Option V) | rng (a b c : Int)

noncomputable def AO.is (prog : Program) (w : World) (τ : TM) : AO → Obj → Prop
  | .list ds, o => ∃ vs n, o = { cls := .type "list", data := .seq vs.toArray n } ∧ VS τ ds vs
  | .tup ds, o => ∃ vs n, o = { cls := .type "tuple", data := .seq vs.toArray n } ∧ VS τ ds vs
  | .dict es, o => ∃ kvs ets ep, o.ExactDict ∧ o.data = .dict ets ep ∧ KeysOf (strKind prog w) ets ∧ Pairs (strKind prog w) ets.toList kvs ∧ (kvs.map (·.1)).Nodup ∧ KV τ es kvs
  | .cell d, o => ∃ ov, o.data = .cell ov ∧ ∀ x, d = some x → ∃ v, ov = some v ∧ x.is τ v
  | .rng a b c, o => ∃ t u v, o = { cls := .type "range", data := .fields #[.int a t, .int b u, .int c v] }
theorem AO.is.mono {prog : Program} {w : World} {τ τ' : TM} (l : τ.le τ') {a : AO} {o : Obj} (h : a.is prog w τ o) : a.is prog w τ' o := by
  cases a with
  | list ds => exact h.imp fun _ => .imp fun _ q => ⟨q.1, q.2.mono l⟩
  | tup ds => exact h.imp fun _ => .imp fun _ q => ⟨q.1, q.2.mono l⟩
  | dict es => exact h.imp fun _ => .imp fun _ => .imp fun _ q => ⟨q.1, q.2.1, q.2.2.1, q.2.2.2.1, q.2.2.2.2.1, q.2.2.2.2.2.mono l⟩
  | cell d => exact h.imp fun _ q => ⟨q.1, fun x hx => (q.2 x hx).imp fun _ r => ⟨r.1, r.2.mono l⟩⟩
  | rng a b c => exact h

abbrev BM := Addr → Option Obj
abbrev LM := Str → Option V
abbrev NM := Addr → Option AO
noncomputable def LM.put (m : LM) (x : Str) (d : V) : LM := fun y => if y = x then some d else m y
noncomputable def NM.put (N : NM) (a : Addr) (o : AO) : NM := fun b => if b = a then some o else N b
noncomputable def NM.del (N : NM) (a : Addr) : NM := fun b => if b = a then none else N b
theorem LM.put_same (m : LM) (x : Str) (d : V) : m.put x d x = some d := if_pos rfl
theorem LM.put_ne {m : LM} {x y : Str} {d : V} (h : y ≠ x) : m.put x d y = m y := if_neg h
theorem NM.put_same (N : NM) (a : Addr) (o : AO) : N.put a o a = some o := if_pos rfl
theorem NM.put_ne {N : NM} {a b : Addr} {o : AO} (h : b ≠ a) : N.put a o b = N b := if_neg h
theorem NM.del_ne {N : NM} {a b : Addr} (h : b ≠ a) : N.del a b = N b := if_neg h
theorem NM.del_same (N : NM) (a : Addr) : N.del a a = none := if_pos rfl

noncomputable def Kp (B : BM) (h : Heap) : Prop := ∀ a o, B a = some o → h.get? a = some o

structure Cx where
  A : Around
  B : BM
  L : Addr
  F : NM
  gens : Array GenState
  drawn : Drawn
  os : OsState
noncomputable def Cx.s (c : Cx) (h : Heap) (tk : Nat) : Shared := ⟨h, c.gens, c.drawn, tk, c.os⟩

structure St (prog : Program) (w : World) (c : Cx) (τ : TM) (tk : Nat) (h : Heap) (m : LM) (N : NM) : Prop where
  ns : ∃ mm, h.Ns c.L mm ∧ ∀ x d, m x = some d → ∃ v, mm x = some v ∧ d.is τ v
  keep : Kp c.B h
  offL : c.B c.L = none
  obj : ∀ a o, N a = some o → a ≠ c.L ∧ c.B a = none ∧ ∃ k, h.get? a = some k ∧ o.is prog w τ k
  fz : ∀ a o, c.F a = some o → ∃ k, c.B a = some k ∧ o.is prog w τ k
  tok : ∀ t u, τ t = some u → t < tk
  pos : 0 < tk

section
variable {prog : Program} {w : World} {c : Cx} {τ τ' : TM} {tk tk' : Nat} {h h' : Heap} {m m' : LM} {N N' : NM}
theorem St.later (S : St prog w c τ tk h m N) (l : tk ≤ tk') : St prog w c τ tk' h m N := ⟨S.ns, S.keep, S.offL, S.obj, S.fz, fun t u e => Nat.lt_of_lt_of_le (S.tok t u e) l, Nat.lt_of_lt_of_le S.pos l⟩
theorem St.tm (S : St prog w c τ tk h m N) (l : τ.le τ') (ht : ∀ t u, τ' t = some u → t < tk') (l' : tk ≤ tk') : St prog w c τ' tk' h m N :=
  ⟨let ⟨mm, a, b⟩ := S.ns; ⟨mm, a, fun x d e => let ⟨v, y, z⟩ := b x d e; ⟨v, y, z.mono l⟩⟩, S.keep, S.offL, fun a o e => let ⟨x, y, k, z, t⟩ := S.obj a o e; ⟨x, y, k, z, t.mono l⟩,
    fun a o e => let ⟨k, x, y⟩ := S.fz a o e; ⟨k, x, y.mono l⟩, ht, Nat.lt_of_lt_of_le S.pos l'⟩
/- a new float -/
theorem St.newF (S : St prog w c τ tk h m N) (u : UInt64) : τ.le (τ.put tk u) ∧ St prog w c (τ.put tk u) (tk + 1) h m N ∧ (V.flt u).is (τ.put tk u) (.float u tk) := by
  have l : τ.le (τ.put tk u) := fun t x e => by
    unfold TM.put
    rw [if_neg (Nat.ne_of_lt (S.tok t x e))]; exact e
  refine ⟨l, S.tm l (fun t x e => ?_) (Nat.le_succ _), tk, rfl, if_pos rfl, Nat.ne_of_gt S.pos⟩
  unfold TM.put at e
  split at e
  · rename_i q; rw [q]; exact Nat.lt_succ_self _
  · exact Nat.lt_succ_of_lt (S.tok t x e)
/- what is known may be forgotten -/
theorem St.weak (S : St prog w c τ tk h m N) (hm : ∀ x d, m' x = some d → m x = some d) (hN : ∀ a o, N' a = some o → N a = some o) : St prog w c τ tk h m' N' :=
  ⟨let ⟨mm, a, b⟩ := S.ns; ⟨mm, a, fun x d e => b x d (hm x d e)⟩, S.keep, S.offL, fun a o e => S.obj a o (hN a o e), S.fz, S.tok, S.pos⟩
theorem St.get (S : St prog w c τ tk h m N) {a : Addr} {o : AO} (e : N a = some o) : ∃ k, h.get? a = some k ∧ o.is prog w τ k := (S.obj a o e).2.2
theorem St.grow (S : St prog w c τ tk h m N) (hk : ∀ a o, h.get? a = some o → h'.get? a = some o) : St prog w c τ tk h' m N :=
  ⟨let ⟨mm, a, b⟩ := S.ns; ⟨mm, a.at' fun o e => hk _ o e, b⟩, fun a o e => hk a o (S.keep a o e), S.offL, fun a o e => let ⟨x, y, k, z, t⟩ := S.obj a o e; ⟨x, y, k, hk a k z, t⟩, S.fz, S.tok, S.pos⟩
theorem St.ltL (S : St prog w c τ tk h m N) : c.L < h.objs.size := let ⟨_, a, _⟩ := S.ns; a.lt
theorem St.fresh (S : St prog w c τ tk h m N) {a : Addr} (ha : h.objs.size ≤ a) : N a = none ∧ c.B a = none ∧ a ≠ c.L := by
  refine ⟨?_, ?_, fun e => ?_⟩
  · cases e : N a with
    | none => rfl
    | some o => obtain ⟨k, z, _⟩ := S.get e; exact absurd (Heap.lt_size z) (Nat.not_lt.mpr ha)
  · cases e : c.B a with
    | none => rfl
    | some o => exact absurd (Heap.lt_size (S.keep a o e)) (Nat.not_lt.mpr ha)
  · exact absurd (e ▸ S.ltL) (Nat.not_lt.mpr ha)
theorem St.add (S : St prog w c τ tk h m N) {a : Addr} {o : AO} {k : Obj} (ha : h.objs.size ≤ a) (hk : ∀ a o, h.get? a = some o → h'.get? a = some o) (e : h'.get? a = some k) (is : o.is prog w τ k) : St prog w c τ tk h' m (N.put a o) := by
  obtain ⟨f1, f2, f3⟩ := S.fresh ha
  have G := S.grow hk
  refine ⟨G.ns, G.keep, G.offL, fun b x hb => ?_, G.fz, G.tok, G.pos⟩
  unfold NM.put at hb
  by_cases hba : b = a
  · rw [if_pos hba] at hb; cases hb; subst hba; exact ⟨f3, f2, k, e, is⟩
  · rw [if_neg hba] at hb; exact G.obj b x hb
theorem St.upd (S : St prog w c τ tk h m N) {a : Addr} {o o' : AO} {k : Obj} (ha : N a = some o) (hs : Heap.ExtBut a h h') (e : h'.get? a = some k) (is : o'.is prog w τ k) : St prog w c τ tk h' m (N.put a o') := by
  obtain ⟨f1, f2, _⟩ := S.obj a o ha
  refine ⟨let ⟨mm, x, y⟩ := S.ns; ⟨mm, x.at' fun o e => hs _ o (Ne.symm f1) e, y⟩, fun b x hb => hs b x (fun q => by rw [q, f2] at hb; cases hb) (S.keep b x hb), S.offL, fun b x hb => ?_, S.fz, S.tok, S.pos⟩
  unfold NM.put at hb
  by_cases hba : b = a
  · rw [if_pos hba] at hb; cases hb; subst hba; exact ⟨f1, f2, k, e, is⟩
  · rw [if_neg hba] at hb
    obtain ⟨x1, x2, k', x3, x4⟩ := S.obj b x hb
    exact ⟨x1, x2, k', hs b k' hba x3, x4⟩
theorem St.store {mm : Str → Option Value} {x : Str} {d : V} {v : Value} (S : St prog w c τ tk h m N) (hm : ∀ x d, m x = some d → ∃ v, mm x = some v ∧ d.is τ v) (hv : d.is τ v)
    (hn' : h'.Ns c.L (fun y => if y = x then some v else mm y)) (hs : Heap.SameBut c.L h h') : St prog w c τ tk h' (m.put x d) N := by
  refine ⟨⟨_, hn', fun y e he => ?_⟩, fun a o e => ?_, S.offL, fun a o e => ?_, S.fz, S.tok, S.pos⟩
  · unfold LM.put at he
    by_cases hy : y = x
    · rw [if_pos hy] at he; cases he; exact ⟨v, if_pos hy, hv⟩
    · rw [if_neg hy] at he; obtain ⟨u, h1, h2⟩ := hm y e he; exact ⟨u, by rw [if_neg hy]; exact h1, h2⟩
  · have hne : a ≠ c.L := fun q => by rw [q, S.offL] at e; cases e
    exact (hs.2 a hne).trans (S.keep a o e)
  · obtain ⟨h1, h2, k, h3, h4⟩ := S.obj a o e
    exact ⟨h1, h2, k, (hs.2 a h1).trans h3, h4⟩
/- what can be read: in the ledger, or among what is frozen -/
noncomputable def Rd (c : Cx) (N : NM) (a : Addr) (o : AO) : Prop := N a = some o ∨ c.F a = some o
theorem Rd.of {a : Addr} {o : AO} (e : N a = some o) : Rd c N a o := .inl e
theorem St.rd (S : St prog w c τ tk h m N) {a : Addr} {o : AO} (e : Rd c N a o) : ∃ k, h.get? a = some k ∧ o.is prog w τ k :=
  e.elim S.get fun e => let ⟨k, x, y⟩ := S.fz a o e; ⟨k, S.keep a k x, y⟩
theorem isList_of {a : Addr} {ds : List V} {k : Obj} (e : h.get? a = some k) (is : (AO.list ds).is prog w τ k) : ∃ vs : List Value, h.IsList a vs.toArray ∧ VS τ ds vs ∧ k.dict = none := by
  obtain ⟨vs, n, rfl, v⟩ := is
  exact ⟨vs, ⟨_, e, rfl, n, rfl⟩, v, rfl⟩
theorem isTup_of {a : Addr} {ds : List V} {k : Obj} (e : h.get? a = some k) (is : (AO.tup ds).is prog w τ k) : ∃ vs : List Value, IsTup h a vs.toArray ∧ VS τ ds vs := by
  obtain ⟨vs, n, rfl, v⟩ := is
  exact ⟨vs, ⟨_, e, rfl, n, rfl⟩, v⟩
end

/- the end of a computation -/
inductive Out (prog : Program) (w : World) (c : Cx) (τ : TM) (P : TM → LM → NM → Prop) (s' : Shared) : Prop where
  | mk (τ' : TM) (h' : Heap) (tk' : Nat) (m' : LM) (N' : NM) (e : s' = c.s h' tk') (l : τ.le τ') (S : St prog w c τ' tk' h' m' N') (p : P τ' m' N')
structure Ta (prog : Program) (w : World) (c : Cx) (τ : TM) {α : Type} (t : Sem α) (m : LM) (N : NM) (P : TM → α → LM → NM → Prop) : Prop where
  run : ∀ h tk, St prog w c τ tk h m N → wpAny (model prog w) c.A t (fun a s' => Out prog w c τ (fun τ' => P τ' a) s') (fun _ _ => False) (c.s h tk)

section
variable {prog : Program} {w : World} {c : Cx} {τ τ' : TM} {m : LM} {N : NM}
theorem Out.here {P : TM → LM → NM → Prop} {h : Heap} {tk : Nat} (S : St prog w c τ tk h m N) (p : P τ m N) : Out prog w c τ P (c.s h tk) := ⟨τ, h, tk, m, N, rfl, .refl τ, S, p⟩
theorem Out.le {P : TM → LM → NM → Prop} {s : Shared} (l : τ.le τ') (o : Out prog w c τ' P s) : Out prog w c τ P s := by
  cases o with | mk a b d m' N' e l' S p => exact ⟨a, b, d, m', N', e, l.trans l', S, p⟩
/- the tokens only grow -/
theorem Ta.mk' {α : Type} {t : Sem α} {P : TM → α → LM → NM → Prop} (h : ∀ h tk, St prog w c τ tk h m N → wpAny (model prog w) c.A t (fun a s' => tk ≤ s'.toks → Out prog w c τ (fun τ' => P τ' a) s') (fun _ _ => False) (c.s h tk)) : Ta prog w c τ t m N P :=
  ⟨fun H tk S => wpAny_with_toks (n := tk) (Nat.le_refl _) (wpAny_mono (h H tk S) (fun _ _ x => x) fun _ _ x => x.elim)⟩
theorem wgo {α : Type} {M : Model} {A : Around} {t : Sem α} {P : TM → α → LM → NM → Prop} {Q : α → Shared → Prop} {E : Value → Shared → Prop} {s : Shared} (h : wpAny M A t (fun a s' => Out prog w c τ (fun τ' => P τ' a) s') (fun _ _ => False) s)
    (k : ∀ a τ' h' tk' m' N', τ.le τ' → St prog w c τ' tk' h' m' N' → P τ' a m' N' → Q a (c.s h' tk')) : wpAny M A t Q E s :=
  wpAny_mono h (fun a s' ⟨τ', h', tk', m', N', e, l, S, p⟩ => e ▸ k a τ' h' tk' m' N' l S p) fun _ _ x => x.elim
theorem wgo2 {α β : Type} {M : Model} {A : Around} {t : Sem α} {R : TM → α → β → Prop} {P : β → LM → NM → Prop} {Q : α → Shared → Prop} {E : Value → Shared → Prop} {s : Shared} (h : wpAny M A t (fun a s' => Out prog w c τ (fun τ' m' N' => ∃ d : β, R τ' a d ∧ P d m' N') s') (fun _ _ => False) s)
    (k : ∀ a τ' h' tk' m' N', τ.le τ' → St prog w c τ' tk' h' m' N' → ∀ d, R τ' a d → P d m' N' → Q a (c.s h' tk')) : wpAny M A t Q E s :=
  wgo h fun a τ' h' tk' m' N' l S p => p.elim fun d q => k a τ' h' tk' m' N' l S d q.1 q.2
theorem Ta.mono {α : Type} {t : Sem α} {P P' : TM → α → LM → NM → Prop} (h : Ta prog w c τ t m N P) (hp : ∀ τ' a m' N', P τ' a m' N' → P' τ' a m' N') : Ta prog w c τ t m N P' :=
  ⟨fun H tk S => wgo (h.run H tk S) fun _ _ _ _ _ _ l S' p => ⟨_, _, _, _, _, rfl, l, S', hp _ _ _ _ p⟩⟩
theorem Ta.pure {α : Type} {a : α} {P : TM → α → LM → NM → Prop} (h : P τ a m N) : Ta prog w c τ (Pure.pure a) m N P := ⟨fun H tk S => wpAny_pure (.here S h)⟩
theorem Ta.bind {α β : Type} {t : Sem α} {f : α → Sem β} {P : TM → β → LM → NM → Prop} (h : Ta prog w c τ t m N (fun τ' a m' N' => Ta prog w c τ' (f a) m' N' P)) : Ta prog w c τ (t >>= f) m N P :=
  ⟨fun H tk S => wpAny_bind (wgo (h.run H tk S) fun _ τ' h' tk' m' N' l S' p => wpAny_mono (p.run h' tk' S') (fun _ _ o => o.le l) fun _ _ x => x)⟩
theorem Ta.holding {α : Type} {vs : List Value} {t : Sem α} {P : TM → α → LM → NM → Prop} (h : Ta prog w c τ t m N P) : Ta prog w c τ (PySem.holding vs t) m N P := ⟨fun H tk S => wpAny_holding (h.run H tk S)⟩
theorem Ta.standAt {pos : Pos} {P : TM → Unit → LM → NM → Prop} (h : P τ () m N) : Ta prog w c τ (PySem.standAt pos) m N P := ⟨fun H tk S => wpAny_standAt (.here S h)⟩
theorem Ta.weak {α : Type} {t : Sem α} {m m' : LM} {N N' : NM} {P : TM → α → LM → NM → Prop} (hm : ∀ x d, m' x = some d → m x = some d) (hN : ∀ a o, N' a = some o → N a = some o)
    (h : Ta prog w c τ t m' N' P) : Ta prog w c τ t m N P := ⟨fun H tk S => h.run H tk (S.weak hm hN)⟩
/- a computation of a value -/
noncomputable def TV (prog : Program) (w : World) (c : Cx) (τ : TM) (t : Sem Value) (m : LM) (N : NM) (P : V → LM → NM → Prop) : Prop :=
  Ta prog w c τ t m N (fun τ' v m' N' => ∃ d : V, d.is τ' v ∧ P d m' N')
/- the value is at hand, the state as it was, or some tokens later -/
theorem Out.val {P : V → LM → NM → Prop} {h : Heap} {tk : Nat} {d : V} {v : Value} (S : St prog w c τ tk h m N) (is : d.is τ v) (p : P d m N) : Out prog w c τ (fun τ' m' N' => ∃ d : V, d.is τ' v ∧ P d m' N') (c.s h tk) := .here S ⟨d, is, p⟩
/- a new float is made -/
theorem Out.flt {P : V → LM → NM → Prop} {h : Heap} {tk : Nat} {u : UInt64} (S : St prog w c τ tk h m N) (p : P (.flt u) m N) : Out prog w c τ (fun τ' m' N' => ∃ d : V, d.is τ' (.float u tk) ∧ P d m' N') (c.s h (tk + 1)) :=
  let ⟨l, S', is⟩ := S.newF u; ⟨_, h, tk + 1, m, N, rfl, l, S', .flt u, is, p⟩
end

/- an expression -/
noncomputable def Ev (prog : Program) (w : World) (c : Cx) (env : Env) (e : Expr) (m : LM) (N : NM) (P : V → LM → NM → Prop) : Prop := ∀ τ, TV prog w c τ (eval e env) m N P
/- a binary operation on values -/
noncomputable def Bi (prog : Program) (w : World) (c : Cx) (op : Operator) (a b : V) (m : LM) (N : NM) (P : V → LM → NM → Prop) : Prop :=
  ∀ τ va vb, a.is τ va → b.is τ vb → TV prog w c τ (binaryOp op va vb) m N P
noncomputable def Ib (prog : Program) (w : World) (c : Cx) (op : Operator) (a b : V) (m : LM) (N : NM) (P : V → LM → NM → Prop) : Prop :=
  ∀ τ va vb, a.is τ va → b.is τ vb → TV prog w c τ (inplaceOp op va vb) m N P
/- a comparison -/
noncomputable def Cp (prog : Program) (w : World) (c : Cx) (op : CmpOp) (a b : V) (m : LM) (N : NM) (P : V → LM → NM → Prop) : Prop :=
  ∀ τ va vb, a.is τ va → b.is τ vb → TV prog w c τ (compareOp op va vb) m N P
/- a call, its arguments at hand -/
noncomputable def Ca (prog : Program) (w : World) (c : Cx) (f : V) (as : List V) (m : LM) (N : NM) (P : V → LM → NM → Prop) : Prop :=
  ∀ τ vf vs, f.is τ vf → VS τ as vs → TV prog w c τ (call vf vs []) m N P
/- the truth of a value -/
noncomputable def Tu (prog : Program) (w : World) (c : Cx) (a : V) (m : LM) (N : NM) (P : Bool → LM → NM → Prop) : Prop :=
  ∀ τ va, a.is τ va → Ta prog w c τ (truthy va) m N (fun _ => P)
/- a test -/
noncomputable def Te (prog : Program) (w : World) (c : Cx) (env : Env) (e : Expr) (m : LM) (N : NM) (P : Bool → LM → NM → Prop) : Prop :=
  ∀ τ, Ta prog w c τ (isTrue e env (eval e env)) m N (fun _ => P)
/- the ends of a statement -/
noncomputable def FP (Pn Pb Pc : LM → NM → Prop) (Pr : V → LM → NM → Prop) (τ : TM) (f : Flow) (m : LM) (N : NM) : Prop := match f with
  | .next => Pn m N
  | .brk => Pb m N
  | .cont => Pc m N
  | .ret v => ∃ d : V, d.is τ v ∧ Pr d m N
noncomputable def Ex (prog : Program) (w : World) (c : Cx) (env : Env) (st : Stmt) (m : LM) (N : NM) (Pn Pb Pc : LM → NM → Prop) (Pr : V → LM → NM → Prop) : Prop :=
  ∀ τ, Ta prog w c τ (exec st env) m N (FP Pn Pb Pc Pr)
noncomputable def Es (prog : Program) (w : World) (c : Cx) (env : Env) (sts : List Stmt) (m : LM) (N : NM) (Pn Pb Pc : LM → NM → Prop) (Pr : V → LM → NM → Prop) : Prop :=
  ∀ τ, Ta prog w c τ (execs sts env) m N (FP Pn Pb Pc Pr)
/- a value stored under a name -/
noncomputable def Sn (prog : Program) (w : World) (c : Cx) (env : Env) (x : Str) (d : V) (m : LM) (N : NM) (P : LM → NM → Prop) : Prop :=
  ∀ τ v, d.is τ v → Ta prog w c τ (storeName env x v) m N (fun _ _ => P)

section
variable {prog : Program} {w : World} {c : Cx} {env : Env} {m : LM} {N : NM} {Pn Pb Pc : LM → NM → Prop} {Pr : V → LM → NM → Prop} {P : V → LM → NM → Prop}

theorem Es.nil (h : Pn m N) : Es prog w c env [] m N Pn Pb Pc Pr := fun τ => Ta.pure (a := Flow.next) h
theorem Es.cons {st : Stmt} {rest : List Stmt} (h : Ex prog w c env st m N (fun m' N' => Es prog w c env rest m' N' Pn Pb Pc Pr) Pb Pc Pr) : Es prog w c env (st :: rest) m N Pn Pb Pc Pr := fun τ => by
  refine Ta.bind (Ta.mono (h τ) fun τ' f m' N' p => ?_)
  cases f with
  | next => exact p τ'
  | brk => exact Ta.pure p
  | cont => exact Ta.pure p
  | ret v => exact Ta.pure p
theorem FP.mono {Pn' Pb' Pc' : LM → NM → Prop} {Pr' : V → LM → NM → Prop} {τ : TM} {f : Flow} (h : FP Pn Pb Pc Pr τ f m N) (h1 : ∀ m N, Pn m N → Pn' m N) (h2 : ∀ m N, Pb m N → Pb' m N) (h3 : ∀ m N, Pc m N → Pc' m N) (h4 : ∀ d m N, Pr d m N → Pr' d m N) :
    FP Pn' Pb' Pc' Pr' τ f m N := by
  cases f with
  | next => exact h1 _ _ h
  | brk => exact h2 _ _ h
  | cont => exact h3 _ _ h
  | ret v => exact let ⟨d, e, q⟩ := h; ⟨d, e, h4 _ _ _ q⟩
theorem Ex.cut {st : Stmt} (Q : LM → NM → LM → NM → Prop) (h : Ex prog w c env st m N (Q m N) Pb Pc Pr) (hq : ∀ m' N', Q m N m' N' → Pn m' N') : Ex prog w c env st m N Pn Pb Pc Pr :=
  fun τ => Ta.mono (h τ) fun _ _ _ _ p => p.mono (fun _ _ => hq _ _) (fun _ _ x => x) (fun _ _ x => x) fun _ _ _ x => x
theorem Es.weak {sts : List Stmt} {m' : LM} {N' : NM} (hm : ∀ x d, m' x = some d → m x = some d) (hN : ∀ a o, N' a = some o → N a = some o) (h : Es prog w c env sts m' N' Pn Pb Pc Pr) : Es prog w c env sts m N Pn Pb Pc Pr := fun τ => Ta.weak hm hN (h τ)
theorem Ex.ret {e : Expr} {pos : Pos} (h : Ev prog w c env e m N Pr) : Ex prog w c env (.Return (some e) pos) m N Pn Pb Pc Pr := fun τ => ⟨fun H tk S => wpAny_Return_some ((h τ).run H tk S)⟩
theorem Ex.brk {pos : Pos} (h : Pb m N) : Ex prog w c env (.Break pos) m N Pn Pb Pc Pr := fun τ => Ta.bind (Ta.standAt (Ta.pure (a := Flow.brk) h))
theorem Ex.cont {pos : Pos} (h : Pc m N) : Ex prog w c env (.Continue pos) m N Pn Pb Pc Pr := fun τ => Ta.bind (Ta.standAt (Ta.pure (a := Flow.cont) h))
theorem Ex.assign {x : Str} {pos pos' : Pos} {e : Expr} (h : Ev prog w c env e m N (fun d m' N' => Sn prog w c env x d m' N' Pn))
    (hs : swapsWith e (some (.Name x pos')) pos.line env = Pure.pure false := by rfl) : Ex prog w c env (.Assign [.Name x pos'] e pos) m N Pn Pb Pc Pr := fun τ => ⟨fun H tk S => by
  refine wpAny_Assign_Name (wgo2 ((h τ).run H tk S) (fun v τ1 h' tk' m' N' l S' d hd p => ?_)) hs
  exact wpAny_mono ((p τ1 v hd).run h' tk' S') (fun _ _ o => o.le l) fun _ _ x => x⟩
theorem Ex.if {test : Expr} {body orelse : List Stmt} {pos : Pos} (h : Te prog w c env test m N (fun b m' N' => (b = true → Es prog w c env body m' N' Pn Pb Pc Pr) ∧ (b = false → Es prog w c env orelse m' N' Pn Pb Pc Pr))) :
    Ex prog w c env (.If test body orelse pos) m N Pn Pb Pc Pr := fun τ => ⟨fun H tk S => by
  refine wpAny_If (wgo ((h τ).run H tk S) (fun b τ1 h' tk' m' N' l S' p => ?_))
  cases b with
  | true => simp only [if_true]; exact wpAny_mono ((p.1 rfl τ1).run h' tk' S') (fun _ _ o => o.le l) fun _ _ x => x
  | false => simp only [Bool.false_eq_true, if_false]; exact wpAny_mono ((p.2 rfl τ1).run h' tk' S') (fun _ _ o => o.le l) fun _ _ x => x⟩
theorem Ev.bin {l r : Expr} {op : Operator} {pos : Pos} (h : Ev prog w c env l m N (fun a m1 N1 => Ev prog w c env r m1 N1 (fun b m2 N2 => Bi prog w c op a b m2 N2 P))) : Ev prog w c env (.BinOp l op r pos) m N P := fun τ => ⟨fun H tk S => by
  refine wpAny_BinOp (wgo2 ((h τ).run H tk S) (fun va τ1 h1 tk1 m1 N1 l1 S1 a ha p => ?_))
  refine wgo2 ((p τ1).run h1 tk1 S1) (fun vb τ2 h2 tk2 m2 N2 l2 S2 b hb q => ?_)
  exact wpAny_mono ((q τ2 va vb (ha.mono l2) hb).run h2 tk2 S2) (fun _ _ o => o.le (l1.trans l2)) fun _ _ x => x⟩
theorem Ev.cmp {l r : Expr} {op : CmpOp} {pos : Pos} (h : Ev prog w c env l m N (fun a m1 N1 => Ev prog w c env r m1 N1 (fun b m2 N2 => Cp prog w c op a b m2 N2 P))) (hm : behindInMarks op r = false := by with_unfolding_all rfl) :
    Ev prog w c env (.Compare l [op] [r] pos) m N P := fun τ => ⟨fun H tk S => by
  refine wpAny_Compare1 (wgo2 ((h τ).run H tk S) (fun va τ1 h1 tk1 m1 N1 l1 S1 a ha p => ?_)) hm
  refine wgo2 ((p τ1).run h1 tk1 S1) (fun vb τ2 h2 tk2 m2 N2 l2 S2 b hb q => ?_)
  exact wpAny_mono ((q τ2 va vb (ha.mono l2) hb).run h2 tk2 S2) (fun _ _ o => o.le (l1.trans l2)) fun _ _ x => x⟩
theorem Te.cmp {l r : Expr} {op : CmpOp} {pos : Pos} {P : Bool → LM → NM → Prop} (h : Ev prog w c env l m N (fun a m1 N1 => Ev prog w c env r m1 N1 (fun b m2 N2 => Cp prog w c op a b m2 N2 (fun d m3 N3 => Tu prog w c d m3 N3 P))))
    (hm : behindInMarks op r = false := by with_unfolding_all rfl) : Te prog w c env (.Compare l [op] [r] pos) m N P := fun τ => ⟨fun H tk S => by
  refine wpAny_isTrue_Compare1 (wgo2 ((h τ).run H tk S) (fun va τ1 h1 tk1 m1 N1 l1 S1 a ha p => ?_)) hm
  refine wgo2 ((p τ1).run h1 tk1 S1) (fun vb τ2 h2 tk2 m2 N2 l2 S2 b hb q => ?_)
  refine wgo2 ((q τ2 va vb (ha.mono l2) hb).run h2 tk2 S2) (fun vd τ3 h3 tk3 m3 N3 l3 S3 d hd z => ?_)
  exact wpAny_mono ((z τ3 vd hd).run h3 tk3 S3) (fun _ _ o => o.le ((l1.trans l2).trans l3)) fun _ _ x => x⟩
theorem Tu.bool {b : Bool} {P : Bool → LM → NM → Prop} (h : P b m N) : Tu prog w c (.bool b) m N P := fun τ va hv => ⟨fun H tk S => by
  cases hv; exact wpAny_truthy_bool (.here S h)⟩
theorem Ev.int {i : Int} {k : Nat} {pos : Pos} (h : P (.int i) m N) : Ev prog w c env (.Constant (.int i) k pos) m N P := fun τ => ⟨fun H tk S => wpAny_Constant_int (.val (d := .int i) (S.later (Nat.le_succ _)) ⟨_, rfl⟩ h)⟩
theorem Ev.str {x : Str} {k : Nat} {pos : Pos} (h : P (.str x) m N) : Ev prog w c env (.Constant (.str x) k pos) m N P := fun τ => ⟨fun H tk S => Calls.Constant_str (.val (d := .str x) (S.later (Nat.le_succ _)) ⟨_, rfl⟩ h)⟩
theorem Ev.bool {b : Bool} {k : Nat} {pos : Pos} (h : P (.bool b) m N) : Ev prog w c env (.Constant (.bool b) k pos) m N P := fun τ => Ta.pure (a := Value.bool b) ⟨.bool b, rfl, h⟩
theorem Ev.none {k : Nat} {pos : Pos} (h : P .none m N) : Ev prog w c env (.Constant .none k pos) m N P := fun τ => Ta.pure (a := Value.none) ⟨.none, rfl, h⟩
theorem Ev.flt {u : UInt64} {k : Nat} {pos : Pos} (h : P (.flt u) m N) : Ev prog w c env (.Constant (.float u) k pos) m N P := fun τ => ⟨fun H tk S => fun _ _ _ => Out.flt S h⟩

/- a local name -/
theorem Ev.name {x : Str} {pos : Pos} {d : V} (hL : env.locals = c.L) (hk : env.scope.kind = .function) (hx : env.kindOf x = some .local) (hd : m x = some d) (h : P d m N) (hb : (x == ("__debug__" : Str)) = false := by decide) :
    Ev prog w c env (.Name x pos) m N P := fun τ => ⟨fun H tk S => by
  obtain ⟨mm, hn, hm⟩ := S.ns
  obtain ⟨v, hv, is⟩ := hm x d hd
  exact wpAny_Name (wpAny_loadName_local hk hx (by rw [hL]; exact hn) hv (.val S is h)) hb⟩
theorem Sn.local {x : Str} {d : V} {P : LM → NM → Prop} (hL : env.locals = c.L) (hk : env.scope.kind = .function) (hx : env.kindOf x = some .local) (h : P (m.put x d) N) : Sn prog w c env x d m N P := fun τ v hv => ⟨fun H tk S => by
  obtain ⟨mm, hn, hm⟩ := S.ns
  refine wpAny_storeName_local hx (by rw [hL]; exact hn) (fun h' hn' hs => ?_) (by rw [hk]; rfl)
  rw [hL] at hn' hs
  exact .here ((S.store hm hv hn' hs).later (Nat.le_succ _)) h⟩
end
end Mine
end PartCo
section PartC2
open PySem PySem.W PyProof.Rows
set_option linter.unusedVariables false
namespace Mine
/- the program's own part of the heap -/
structure Bs (w : World) (B : BM) : Prop where
  K : ∀ a o, (hd.heap_39 w.params).lookup a = some o → B a = some o
  T : ∀ h, Kp B h → ∃ mg mb, h.Ns mainGlobals mg ∧ h.Ns builtinsNs mb ∧ h.NoLimit ∧ (∀ x : Str, x ≠ "__name__" → mb x = bootBuiltins x) ∧ NoneBooked h
theorem Bs.mono {w : World} {B B' : BM} (b : Bs w B) (hk : ∀ a o, B a = some o → B' a = some o) : Bs w B' := ⟨fun a o e => hk a o (b.K a o e), fun h k => b.T h fun a o e => k a o (hk a o e)⟩
theorem Bs.in {w : World} {B : BM} (b : Bs w B) {h : Heap} (k : Kp B h) : (hd.heap_39 w.params).In h := fun a o e => k a o (b.K a o e)

section
variable {prog : Program} {w : World} {c : Cx} {env : Env} {m : LM} {N : NM} {Pn Pb Pc : LM → NM → Prop} {Pr : V → LM → NM → Prop} {P : V → LM → NM → Prop}

/- a name of the module's -/
theorem Ev.glob {x : Str} {pos : Pos} {v : Value} {d : V} (hB : Bs w c.B) (hk : env.scope.kind = .function) (hg : env.globals = mainGlobals) (hx : env.kindOf x = some .globalImplicit)
    (e : nsIn (hd.heap_39 w.params) mainGlobals x = some (some v)) (hd : ∀ τ, d.is τ v) (h : P d m N) (hb : (x == ("__debug__" : Str)) = false := by decide) : Ev prog w c env (.Name x pos) m N P := fun τ => ⟨fun H tk S => by
  obtain ⟨mg, mb, g, b, _, _, _⟩ := hB.T H S.keep
  exact Calls.Name_function_global hk hx (Calls.loadGlobal_global (by rw [hg]; exact g) (mg_of (hB.in S.keep) g e) (.val S (hd τ) h)) hb⟩
theorem Ev.builtin {x : Str} {pos : Pos} {v : Value} {d : V} (hB : Bs w c.B) (hk : env.scope.kind = .function) (hg : env.globals = mainGlobals) (hbn : env.builtins = builtinsNs) (hx : env.kindOf x = some .globalImplicit)
    (e : nsIn (hd.heap_39 w.params) mainGlobals x = some Option.none) (hv : bootBuiltins x = some v) (hn : x ≠ "__name__") (hd : ∀ τ, d.is τ v) (h : P d m N) (hb : (x == ("__debug__" : Str)) = false := by decide) : Ev prog w c env (.Name x pos) m N P := fun τ => ⟨fun H tk S => by
  obtain ⟨mg, mb, g, b, _, hbi, _⟩ := hB.T H S.keep
  exact Calls.Name_function_global hk hx (Calls.loadGlobal_builtin (by rw [hg]; exact g) (mg_none_of (hB.in S.keep) g e) (by rw [hbn]; exact b) ((hbi x hn).trans hv) (.val S (hd τ) h)) hb⟩

/- a captured name -/
theorem Ev.cell {x : Str} {pos : Pos} {a : Addr} {d : V} (hk : env.scope.kind = .function) (hx : env.kindOf x = some .cell) (hc : env.cells.lookup x = some a) (hd : Rd c N a (.cell (some d))) (h : P d m N) (hb : (x == ("__debug__" : Str)) = false := by decide) :
    Ev prog w c env (.Name x pos) m N P := fun τ => ⟨fun H tk S => by
  obtain ⟨k, e, ov, dt, f⟩ := S.rd hd
  obtain ⟨v, hv, is⟩ := f d rfl
  exact wpAny_Name (wpAny_loadName_cell hk hx hc ⟨k, e, by rw [dt, hv]⟩ (.val S is h)) hb⟩
theorem Sn.cell {x : Str} {d : V} {a : Addr} {o : Option V} {P : LM → NM → Prop} (hk : env.scope.kind = .function) (hx : env.kindOf x = some .cell) (hc : env.cells.lookup x = some a) (ha : N a = some (.cell o)) (h : P m (N.put a (.cell (some d)))) :
    Sn prog w c env x d m N P := fun τ v hv => ⟨fun H tk S => by
  obtain ⟨k, e, ov, dt, f⟩ := S.get ha
  refine wpAny_storeName_cell hk hx hc ⟨k, e, dt⟩ fun h' hv' hs => ?_
  obtain ⟨k', e', dt'⟩ := hv'
  exact .here (S.upd (o' := .cell (some d)) ha hs.extBut e' ⟨_, dt', fun y hy => by cases hy; exact ⟨v, rfl, hv⟩⟩) h⟩

/- the arguments of a call -/
noncomputable def Ar (prog : Program) (w : World) (c : Cx) (env : Env) (es : List Expr) (m : LM) (N : NM) (P : List V → LM → NM → Prop) : Prop :=
  ∀ pos τ, Ta prog w c τ (spliced (backTo pos (starEach es env))) m N (fun τ' vs m' N' => ∃ ds, VS τ' ds vs ∧ P ds m' N')
theorem Ar.nil {P : List V → LM → NM → Prop} (h : P [] m N) : Ar prog w c env [] m N P := fun pos τ => ⟨fun H tk S => Calls.spliced_nil (.here S ⟨[], trivial, h⟩)⟩
theorem Ar.cons {e : Expr} {es : List Expr} {P : List V → LM → NM → Prop} (h : Ev prog w c env e m N (fun d m1 N1 => Ar prog w c env es m1 N1 (fun ds m2 N2 => P (d :: ds) m2 N2)))
    (he : starEach (e :: es) env = (false, eval e env) :: starEach es env := by rfl) : Ar prog w c env (e :: es) m N P := fun pos τ => ⟨fun H tk S => by
  refine args_cons (wgo2 ((h τ).run H tk S) (fun v τ1 h1 tk1 m1 N1 l1 S1 d hd p => ?_)) he
  exact wgo2 ((p pos τ1).run h1 tk1 S1) fun vs τ2 h2 tk2 m2 N2 l2 S2 ds hds q => ⟨τ2, h2, tk2, m2, N2, rfl, l1.trans l2, S2, d :: ds, ⟨hd.mono l2, hds⟩, q⟩⟩

/- what may be called -/
noncomputable def Clb (w : World) (c : Cx) (f : V) : Prop := match f with
  | .bi _ => True
  | .ty _ => True
  | .ref a => ∃ o fd, c.B a = some o ∧ o.data = .func fd
  | _ => False
theorem Ev.call {func e : Expr} {args : List Expr} {pos : Pos} (h : Ev prog w c env func m N (fun f m1 N1 => Clb w c f ∧ Ar prog w c env (e :: args) m1 N1 (fun as m2 N2 => Ca prog w c f as m2 N2 P)))
    (hev : eval (.Call func (e :: args) [] pos) env = (do callWith pos (← eval func env) [] (backTo pos (starEach (e :: args) env)) (backToKw pos (keywordEach [] env))) := by rfl)
    (he : starEach (e :: args) env = (false, eval e env) :: starEach args env := by rfl) (hplain : (backTo pos (starEach args env)).any (·.1) = false := by rfl) :
    Ev prog w c env (.Call func (e :: args) [] pos) m N P := fun τ => ⟨fun H tk S => by
  refine Call_ (wgo2 ((h τ).run H tk S) (fun vf τ1 h1 tk1 m1 N1 l1 S1 f hf oo => ?_)) hev
  obtain ⟨cl, p⟩ := oo
  have hsp := (p pos τ1).run h1 tk1 S1
  cases f with
  | bi id =>
    cases hf
    refine callWith_builtin1 (wgo2 hsp (fun vs τ2 h2 tk2 m2 N2 l2 S2 ds hds q => ?_)) he hplain
    exact wpAny_mono ((q τ2 _ vs rfl hds).run h2 tk2 S2) (fun _ _ o => o.le (l1.trans l2)) fun _ _ x => x
  | ty n =>
    cases hf
    refine Pv.callWith_type1 (wgo2 hsp (fun vs τ2 h2 tk2 m2 N2 l2 S2 ds hds q => ?_)) he hplain
    exact wpAny_mono ((q τ2 _ vs rfl hds).run h2 tk2 S2) (fun _ _ o => o.le (l1.trans l2)) fun _ _ x => x
  | ref a =>
    cases hf
    rw [he] at hsp ⊢
    obtain ⟨o, fd, cB, cd⟩ := cl
    refine Calls.callWith_function (o := o) (fd := fd) (Calls.evalArgs_plain (wgo2 hsp (fun vs τ2 h2 tk2 m2 N2 l2 S2 ds hds q => ?_)))
    exact ⟨⟨S2.keep a o cB, cd⟩, wpAny_mono ((q τ2 _ vs rfl hds).run h2 tk2 S2) (fun _ _ o => o.le (l1.trans l2)) fun _ _ x => x⟩
  | _ => exact cl.elim⟩
end
end Mine
end PartC2
section PartC3
open PySem PySem.W PyProof.Rows
set_option linter.unusedVariables false
namespace Mine
section
variable {prog : Program} {w : World} {c : Cx} {env : Env} {m : LM} {N : NM} {Pn Pb Pc : LM → NM → Prop} {Pr : V → LM → NM → Prop} {P : V → LM → NM → Prop}

theorem list_turn {τ : TM} {h : Heap} {a : Addr} {vs us : List Value} {ds : List V} {n : Nat} (e : h.get? a = some { cls := .type "list", data := .seq vs.toArray n }) (f : Array Value → Array Value) (hf : f vs.toArray = us.toArray) (hu : VS τ ds us) :
    ∃ k, (h.update a (Obj.mapSeq f)).get? a = some k ∧ (AO.list ds).is prog w τ k := by
  refine ⟨_, PySem.IsL.update e f, ?_⟩
  rw [hf]
  exact ⟨us, _, rfl, hu⟩
/- a new list, a new tuple -/
theorem Out.alloc {τ : TM} {h : Heap} {tk : Nat} {o : AO} {k : Obj} (S : St prog w c τ tk h m N) (is : o.is prog w τ k) (hf : k.isFreed = false) (p : ∀ a, N a = none → P (.ref a) m (N.put a o)) :
    Out prog w c τ (fun τ' m' N' => ∃ d : V, d.is τ' (.ref h.objs.size) ∧ P d m' N') (c.s (h.push k) tk) :=
  ⟨τ, _, tk, m, _, rfl, .refl τ, S.add (Nat.le_refl _) (fun a o e => Heap.get?_push_of_some _ e) (Heap.get?_push_size _ hf) is, .ref _, rfl, p _ (S.fresh (Nat.le_refl _)).1⟩
theorem Ev.list {es : List Expr} {pos : Pos} (h : Ar prog w c env es m N (fun ds m1 N1 => ds.length ≤ 1000 ∧ ∀ a, N1 a = Option.none → P (.ref a) m1 (N1.put a (.list ds)))) : Ev prog w c env (.List es pos) m N P := fun τ => ⟨fun H tk S => by
  refine List_ (wgo2 ((h pos τ).run H tk S) (fun vs τ1 h1 tk1 m1 N1 l1 S1 ds hds oo => ?_))
  obtain ⟨hz, p⟩ := oo
  refine wpAny_newObj_type (s := c.s h1 tk1) (Out.le l1 (Out.alloc S1 (o := .list ds) ⟨vs, 0, rfl, hds⟩ rfl p)) ?_
  show vs.toArray.size ≤ sizeLine
  rw [List.size_toArray, hds.length, sizeLine_eq]; exact Nat.le_trans (by assumption) (by decide)⟩
theorem Ev.tuple {es : List Expr} {k : Nat} {pos : Pos} (h : Ar prog w c env es m N (fun ds m1 N1 => ds.length ≤ 1000 ∧ ∀ a, N1 a = Option.none → P (.ref a) m1 (N1.put a (.tup ds)))) : Ev prog w c env (.Tuple es k pos) m N P := fun τ => ⟨fun H tk S => by
  refine Tuple_ (wgo2 ((h pos τ).run H tk S) (fun vs τ1 h1 tk1 m1 N1 l1 S1 ds hds oo => ?_))
  obtain ⟨hz, p⟩ := oo
  refine wpAny_newObj_type (s := c.s h1 tk1) (Out.le l1 (Out.alloc S1 (o := .tup ds) ⟨vs, 0, rfl, hds⟩ rfl p)) ?_
  show vs.toArray.size ≤ sizeLine
  rw [List.size_toArray, hds.length, sizeLine_eq]; exact Nat.le_trans (by assumption) (by decide)⟩

/- an item -/
noncomputable def Sb (prog : Program) (w : World) (c : Cx) (value slice : Expr) (o i : V) (m : LM) (N : NM) (P : V → LM → NM → Prop) : Prop :=
  ∀ τ vo vi, o.is τ vo → i.is τ vi → TV prog w c τ (subscriptTail value slice vo vi) m N P
theorem Ev.sub {value slice : Expr} {pos : Pos} (h : Ev prog w c env value m N (fun o m1 N1 => Ev prog w c env slice m1 N1 (fun i m2 N2 => Sb prog w c value slice o i m2 N2 P))) : Ev prog w c env (.Subscript value slice pos) m N P := fun τ => ⟨fun H tk S => by
  refine Subscript_ (wgo2 ((h τ).run H tk S) (fun vo τ1 h1 tk1 m1 N1 l1 S1 o ho p => ?_))
  refine wgo2 ((p τ1).run h1 tk1 S1) (fun vi τ2 h2 tk2 m2 N2 l2 S2 i hi q => ?_)
  exact wpAny_mono ((q τ2 vo vi (ho.mono l2) hi).run h2 tk2 S2) (fun _ _ o => o.le (l1.trans l2)) fun _ _ x => x⟩
noncomputable def plainSlice : Expr → Bool
  | .Slice .. => false
  | _ => true
theorem plain_sub {slice : Expr} (h : plainSlice slice = true) (o i : Value) : subscripted slice false o i = operate [o, i] (getItem o i) := by
  unfold subscripted
  cases slice <;> first | rfl | cases h
theorem Sb.list {value slice : Expr} {a : Addr} {ds : List V} {k : Int} {d : V} (hr : Rd c N a (.list ds)) (h0 : 0 ≤ k) (h1 : k < 2 ^ 63) (hd : ds[k.toNat]? = some d) (h : P d m N) (hs : plainSlice slice = true := by rfl) : Sb prog w c value slice (.ref a) (.int k) m N P := by
  rintro τ vo vi ho ⟨t, rfl⟩
  refine ⟨fun H tk S => ?_⟩
  cases ho
  refine hideG fun G9 kG9 => ?_
  obtain ⟨o, e, is⟩ := S.rd hr
  obtain ⟨vs, hl, hv, _⟩ := isList_of e is
  obtain ⟨v, hv1, hv2⟩ := hv.get hd
  refine kG9 ?_
  clear kG9
  exact tail_any (s := c.s H tk) (T := "list") ⟨_, e, by obtain ⟨_, _, rfl, _⟩ := is; rfl⟩ slot_list_getitem.lookup (wpAny_getItem_list (s := c.s H tk) hl h0 h1 (by simpa using hv1) (.val S hv2 h)) (plain_sub hs _ _)
/- xs[i] = v -/
theorem Ex.setItem {o i value : Expr} {pos pos' : Pos} (h : Ev prog w c env value m N (fun d m1 N1 => Ev prog w c env o m1 N1 (fun ov m2 N2 => Ev prog w c env i m2 N2 (fun iv m3 N3 =>
      ∃ a ds k, ov = .ref a ∧ iv = .int k ∧ N3 a = some (.list ds) ∧ 0 ≤ k ∧ k < ds.length ∧ k < 2 ^ 63 ∧ Pn m3 (N3.put a (.list (ds.set k.toNat d)))))))
    (hs : swapsWith value (some (.Subscript o i pos')) pos.line env = pure false := by rfl) : Ex prog w c env (.Assign [.Subscript o i pos'] value pos) m N Pn Pb Pc Pr := fun τ => ⟨fun H tk S => by
  refine wpAny_Assign_Subscript (wgo2 ((h τ).run H tk S) (fun v τ1 h1 tk1 m1 N1 l1 S1 d hd p => ?_)) hs
  refine wgo2 ((p τ1).run h1 tk1 S1) (fun vo τ2 h2 tk2 m2 N2 l2 S2 ov hov p2 => ?_)
  refine wgo2 ((p2 τ2).run h2 tk2 S2) (fun vi τ3 h3 tk3 m3 N3 l3 S3 iv hiv oo => ?_)
  refine hideG fun G9 kG9 => ?_
  obtain ⟨a, ds, k, e4, e5, hN, h0, hk1, hf, p3⟩ := oo
  refine kG9 ?_
  clear kG9
  subst e4 e5
  cases hov
  obtain ⟨t, rfl⟩ := hiv
  refine hideG fun G9 kG9 => ?_
  obtain ⟨ob, eo, vs, n, rfl, hvs⟩ := S3.get hN
  have hsz : vs.toArray.size = ds.length := by rw [List.size_toArray, hvs.length]
  obtain ⟨k', e6, is6⟩ := list_turn (prog := prog) (w := w) eo (·.setIfInBounds k.toNat v) (us := vs.set k.toNat v) (by apply Array.toList_inj.mp; simp) (hvs.set (hd.mono (l2.trans l3)))
  refine kG9 ?_
  clear kG9
  exact ki_setAt (s := c.s h3 tk3) eo h0 hf (by rw [hsz]; exact hk1) (Out.le ((l1.trans l2).trans l3) (Out.here (S3.upd hN (Heap.SameBut.update ..).extBut e6 is6) p3))⟩

/- append, pop -/
theorem Ca.append {a : Addr} {ds : List V} {x : V} (hN : N a = some (.list ds)) (hz : ds.length ≤ 1000) (h : P .none m (N.put a (.list (ds ++ [x])))) : Ca prog w c (.bi "list.append") [.ref a, x] m N P := by
  rintro τ vf vs rfl hvs
  refine ⟨fun H tk S => ?_⟩
  refine hideG fun G9 kG9 => ?_
  obtain ⟨v1, v2, rfl, h1, h2⟩ := hvs.two
  refine kG9 ?_
  clear kG9
  cases h1
  refine hideG fun G9 kG9 => ?_
  obtain ⟨ob, eo, ws, n, rfl, hws⟩ := S.get hN
  obtain ⟨k', e6, is6⟩ := list_turn (prog := prog) (w := w) eo (·.push v2) (us := ws ++ [v2]) (by simp) (hws.append (es := [x]) (ws := [v2]) ⟨h2, trivial⟩)
  refine kG9 ?_
  clear kG9
  exact call_meets (s := c.s H tk) slot_list_append ⟨_, eo, rfl⟩ entry_list_append (args_list_append _ _) (AutoListH.list_append_list_val_0 a ws.toArray n v2 (by rw [List.size_toArray, hws.length, sizeLine_eq]; exact Nat.le_trans (by assumption) (by decide)))
    ⟨eo, Out.val (S.upd hN (Heap.SameBut.update ..).extBut e6 is6) (d := .none) rfl h⟩
theorem Ca.pop {a : Addr} {ds : List V} {x : V} (hN : N a = some (.list (ds ++ [x]))) (hz : ds.length ≤ 1000) (h : P x m (N.put a (.list ds))) : Ca prog w c (.bi "list.pop") [.ref a] m N P := by
  rintro τ vf vs rfl hvs
  refine ⟨fun H tk S => ?_⟩
  refine hideG fun G9 kG9 => ?_
  obtain ⟨v1, rfl, h1⟩ := hvs.one
  refine kG9 ?_
  clear kG9
  cases h1
  refine hideG fun G9 kG9 => ?_
  obtain ⟨ob, eo, ws, n, rfl, hws⟩ := S.get hN
  refine kG9 ?_
  clear kG9
  obtain ⟨us, y, rfl, hus, hy⟩ : ∃ us y, ws = us ++ [y] ∧ VS τ ds us ∧ x.is τ y := by
    refine hideG fun G9 kG9 => ?_
    obtain ⟨y, hy1, hy2⟩ := hws.get (i := ds.length) (d := x) (by simp)
    refine kG9 ?_
    clear kG9
    have hl := hws.length
    rw [List.length_append, List.length_singleton] at hl
    have hlast : ws = ws.dropLast ++ [y] := by
      have hne : ws ≠ [] := fun e => by subst e; simp at hl
      have := List.dropLast_concat_getLast hne
      rw [List.getLast_eq_getElem] at this
      have e2 : ws[ws.length - 1]? = some y := by rw [hl]; simpa using hy1
      rw [List.getElem?_eq_getElem (show ws.length - 1 < ws.length by lia)] at e2
      rw [Option.some.inj e2] at this
      exact this.symm
    refine ⟨ws.dropLast, y, hlast, ?_, hy2⟩
    have := hws.dropLast
    simpa using this
  have hk : (us ++ [y]).toArray.size - 1 = us.length := by rw [List.size_toArray, List.length_append]; rfl
  have hyy : (us ++ [y]).toArray[(us ++ [y]).toArray.size - 1]? = some y := by rw [hk]; simp
  refine hideG fun G9 kG9 => ?_
  obtain ⟨k', e6, is6⟩ := list_turn (prog := prog) (w := w) eo (·.eraseIdxIfInBounds ((us ++ [y]).toArray.size - 1)) (us := us) (by rw [hk, kl_erase, List.append_nil]) hus
  refine kG9 ?_
  clear kG9
  exact call_meets (s := c.s H tk) F.slot_list_pop ⟨_, eo, rfl⟩ F.entry_list_pop (F.args_list_pop_1 _) (MeetsSeq.list_pop_last a _ n y hyy (by rw [List.size_toArray, hws.length, sizeLine_eq]; simp; exact Nat.le_trans (by assumption) (by decide)))
    ⟨eo, Out.val (S.upd hN (Heap.SameBut.update ..).extBut e6 is6) hy h⟩
/- a method of a list, of a text -/
noncomputable def Ty (prog : Program) (w : World) (c : Cx) (N : NM) (d : V) (T : String) : Prop := ∀ τ h tk m v, St prog w c τ tk h m N → d.is τ v → (c.s h tk).TypeIs v T ∧ ∀ a, v = .ref a → ∃ ob, h.get? a = some ob ∧ ob.dict = Option.none
theorem Ty.list {a : Addr} {ds : List V} (h : Rd c N a (.list ds)) : Ty prog w c N (.ref a) "list" := fun τ H tk m v S e => by
  cases e
  refine hideG fun G9 kG9 => ?_
  obtain ⟨o, e, vs, n, rfl, _⟩ := S.rd h
  refine kG9 ?_
  clear kG9
  exact ⟨⟨_, e, rfl⟩, fun b hb => by cases hb; exact ⟨_, e, rfl⟩⟩
theorem Ty.str {x : Str} : Ty prog w c N (.str x) "str" := fun τ H tk m v S e => by
  obtain ⟨t, rfl⟩ := e
  exact ⟨rfl, fun b hb => by cases hb⟩
theorem Ev.meth {o e : Expr} {name : Str} {apos pos : Pos} {args : List Expr} {T id : String} (pa : PlainAttrs T) (slot : Slot T name id) (hty : typeOf (.builtin id) = pure (.type "method_descriptor"))
    (h : Ev prog w c env o m N (fun d m1 N1 => Ty prog w c N1 d T ∧ Ar prog w c env (e :: args) m1 N1 (fun as m2 N2 => Ca prog w c (.bi id) (d :: as) m2 N2 P)))
    (hbase : attributeBase o name env (eval o env) = eval o env := by rfl) (hline : (apos.endLine == pos.line) = true := by rfl)
    (he : starEach (e :: args) env = (false, eval e env) :: starEach args env := by rfl) (hplain : (backTo pos (starEach args env)).any (·.1) = false := by rfl)
    (hfew : ((backTo pos (starEach (e :: args) env)).all (fun x => !x.1) && (backToKw pos (keywordEach [] env)).all (fun x => x.1.isSome) && decide ((e :: args).length + ([] : List Keyword).length + (if ([] : List Keyword).isEmpty then 0 else 1) < 30)) = true := by rfl) :
    Ev prog w c env (.Call (.Attribute o name apos) (e :: args) [] pos) m N P := fun τ => ⟨fun H tk S => by
  refine wpAny_Call_method hbase hfew hline pa slot hty (wgo2 ((h τ).run H tk S) (fun ov τ1 h1 tk1 m1 N1 l1 S1 d hd oo => ?_))
  obtain ⟨ty, p⟩ := oo
  refine ⟨(ty τ1 h1 tk1 m1 ov S1 hd).1, (ty τ1 h1 tk1 m1 ov S1 hd).2, ?_⟩
  have hsp := (p pos τ1).run h1 tk1 S1
  rw [he] at hsp ⊢
  refine Calls.callWith_builtin (by show (false || (backTo pos (starEach args env)).any (·.1)) = false; rw [hplain]; rfl) (Calls.evalArgs_plain (wgo2 hsp (fun vs τ2 h2 tk2 m2 N2 l2 S2 ds hds q => ?_)))
  exact wpAny_mono ((q τ2 _ (ov :: vs) rfl ⟨hd.mono l2, hds⟩).run h2 tk2 S2) (fun _ _ o => o.le (l1.trans l2)) fun _ _ x => x⟩
theorem Ev.meth0 {o : Expr} {name : Str} {apos pos : Pos} {T id : String} (pa : PlainAttrs T) (slot : Slot T name id) (hty : typeOf (.builtin id) = pure (.type "method_descriptor"))
    (h : Ev prog w c env o m N (fun d m1 N1 => Ty prog w c N1 d T ∧ Ca prog w c (.bi id) [d] m1 N1 P))
    (hbase : attributeBase o name env (eval o env) = eval o env := by rfl) (hline : (apos.endLine == pos.line) = true := by rfl) :
    Ev prog w c env (.Call (.Attribute o name apos) [] [] pos) m N P := fun τ => ⟨fun H tk S => by
  refine wpAny_Call_method hbase rfl hline pa slot hty (wgo2 ((h τ).run H tk S) (fun ov τ1 h1 tk1 m1 N1 l1 S1 d hd oo => ?_))
  obtain ⟨ty, p⟩ := oo
  refine ⟨(ty τ1 h1 tk1 m1 ov S1 hd).1, (ty τ1 h1 tk1 m1 ov S1 hd).2, ?_⟩
  exact Calls.callWith_builtin rfl (PySem.evalArgs_none (wpAny_mono ((p τ1 _ [ov] rfl ⟨hd, trivial⟩).run h1 tk1 S1) (fun _ _ o => o.le l1) fun _ _ x => x))⟩
/- a call that stands alone -/
theorem Ex.expr {e : Expr} {pos : Pos} (h : Ev prog w c env e m N (fun d m1 N1 => d = .none ∧ Pn m1 N1)) (hi : interactive env = false := by rfl) (hs : swapsWith e Option.none pos.line env = pure false := by rfl) :
    Ex prog w c env (.Expr e pos) m N Pn Pb Pc Pr := fun τ => ⟨fun H tk S =>
  wpAny_Expr (wgo2 ((h τ).run H tk S) fun v τ1 h1 tk1 m1 N1 l1 S1 d hd q => by have e2 := q.1; subst e2; cases hd; exact Out.le l1 (Out.here S1 q.2)) hi hs⟩
end
end Mine
end PartC3
section PartC4
open PySem PySem.W PyProof.Rows
set_option linter.unusedVariables false
namespace Mine
section
variable {prog : Program} {w : World} {c : Cx} {env : Env} {m : LM} {N : NM} {Pn Pb Pc : LM → NM → Prop} {Pr : V → LM → NM → Prop} {P : V → LM → NM → Prop}

/- a context with more kept -/
structure Ext (c c' : Cx) : Prop where
  A : c'.A = c.A
  L : c'.L = c.L
  gens : c'.gens = c.gens
  drawn : c'.drawn = c.drawn
  os : c'.os = c.os
  B : ∀ a o, c.B a = some o → c'.B a = some o
  F : ∀ a o, c.F a = some o → c'.F a = some o
theorem Ext.bs {c c' : Cx} (x : Ext c c') (b : Bs w c.B) : Bs w c'.B := b.mono x.B
theorem Ext.s {c c' : Cx} (x : Ext c c') (h : Heap) (tk : Nat) : c'.s h tk = c.s h tk := by unfold Cx.s; rw [x.gens, x.drawn, x.os]
theorem St.ofExt {c c' : Cx} (x : Ext c c') {τ : TM} {tk : Nat} {h : Heap} {m : LM} {N : NM} (hf : ∀ a o, c.F a = some o → ∃ k, c.B a = some k ∧ o.is prog w τ k) (S : St prog w c' τ tk h m N) : St prog w c τ tk h m N := by
  have hL := x.L
  refine ⟨hL ▸ S.ns, fun a o e => S.keep a o (x.B a o e), ?_, fun a o e => ?_, hf, S.tok, S.pos⟩
  · cases e : c.B c.L with
    | none => rfl
    | some o => have := x.B _ _ e; rw [← hL, S.offL] at this; cases this
  · refine hideG fun G9 kG9 => ?_
    obtain ⟨h1, h2, h3⟩ := S.obj a o e
    refine kG9 ?_
    clear kG9
    refine ⟨hL ▸ h1, ?_, h3⟩
    cases q : c.B a with
    | none => rfl
    | some o' => have := x.B _ _ q; rw [h2] at this; cases this
theorem St.fzm {c : Cx} {τ τ' : TM} {tk : Nat} {h : Heap} {m : LM} {N : NM} (S : St prog w c τ tk h m N) (l : τ.le τ') : ∀ a o, c.F a = some o → ∃ k, c.B a = some k ∧ o.is prog w τ' k :=
  fun a o e => let ⟨k, x, y⟩ := S.fz a o e; ⟨k, x, y.mono l⟩
theorem St.grow' {τ : TM} {tk : Nat} {h h' : Heap} {m : LM} {N : NM} {wr : List Addr} (S : St prog w c τ tk h m N) (hk : ∀ a o, a ∉ wr → h.get? a = some o → h'.get? a = some o) (hL : c.L ∉ wr) (hB : ∀ a ∈ wr, c.B a = none) (hN : ∀ a ∈ wr, N a = none) : St prog w c τ tk h' m N :=
  ⟨let ⟨mm, a, b⟩ := S.ns; ⟨mm, a.at' fun o e => hk _ o hL e, b⟩, fun a o e => hk a o (fun q => by rw [hB a q] at e; cases e) (S.keep a o e), S.offL,
    fun a o e => let ⟨x, y, k, z, t⟩ := S.obj a o e; ⟨x, y, k, hk a k (fun q => by rw [hN a q] at e; cases e) z, t⟩, S.fz, S.tok, S.pos⟩

/- the loop from here on: while -/
structure WhA (prog : Program) (w : World) (c : Cx) (τ : TM) (env : Env) (test : Expr) (body : List Stmt) (m : LM) (N : NM) (Pn : LM → NM → Prop) (Pr : V → LM → NM → Prop) : Prop where
  run : ∀ h tk, St prog w c τ tk h m N → codeAny (model prog w) c.A (.whileLoop test body [] env) (fun r s' => match r with
    | .ok f => Out prog w c τ (fun τ' => FP Pn (fun _ _ => False) (fun _ _ => False) Pr τ' f) s'
    | .error _ => False) (c.s h tk)
noncomputable def Wh (prog : Program) (w : World) (c : Cx) (env : Env) (test : Expr) (body : List Stmt) (m : LM) (N : NM) (Pn : LM → NM → Prop) (Pr : V → LM → NM → Prop) : Prop := ∀ τ, WhA prog w c τ env test body m N Pn Pr
theorem Out.mono {τ : TM} {P P' : TM → LM → NM → Prop} {s : Shared} (o : Out prog w c τ P s) (hp : ∀ τ' m' N', P τ' m' N' → P' τ' m' N') : Out prog w c τ P' s := by
  cases o with | mk a b d m' N' e l' S p => exact ⟨a, b, d, m', N', e, l', S, hp _ _ _ p⟩
theorem Ex.while {test : Expr} {body : List Stmt} {pos : Pos} (h : Wh prog w c env test body m N Pn Pr) : Ex prog w c env (.While test body [] pos) m N Pn Pb Pc Pr := fun τ => ⟨fun H tk S => by
  refine wpAny_While (codeAny_mono ((h τ).run H tk S) fun r s' hr => ?_)
  cases r with
  | ok f => exact hr.mono fun _ _ _ p => p.mono (fun _ _ x => x) (fun _ _ x => x.elim) (fun _ _ x => x.elim) fun _ _ _ x => x
  | error e => exact hr.elim⟩
/- one turn -/
theorem Wh.turn {test : Expr} {body : List Stmt} (h : Te prog w c env test m N (fun b m1 N1 => (b = true → Es prog w c env body m1 N1 (fun m2 N2 => Wh prog w c env test body m2 N2 Pn Pr) Pn (fun m2 N2 => Wh prog w c env test body m2 N2 Pn Pr) Pr) ∧ (b = false → Pn m1 N1))) :
    Wh prog w c env test body m N Pn Pr := fun τ => ⟨fun H tk S => by
  refine codeAny_of_tree ?_
  have hu : c.A.under (.whileLoop test body [] env) = c.A := Around.under_of_weight rfl rfl
  rw [hu]
  show wpAny _ c.A ((whileTurn test body [] env).onRaise (fun x => do noteFrame x env; theTreesLotGoes x)) _ _ _
  refine wpAny_noted ?_
  simp only [whileTurn]
  refine wpAny_bind (wgo ((h τ).run H tk S) (fun b τ1 h1 tk1 m1 N1 l1 S1 p => ?_))
  cases b with
  | false =>
    simp only [Bool.false_eq_true, if_false]
    exact wpAny_bind (wpAny_execs_nil (wpAny_pure (Out.le l1 (Out.here S1 (p.2 rfl)))))
  | true =>
    simp only [if_true]
    refine wpAny_bind (wgo ((p.1 rfl τ1).run h1 tk1 S1) (fun f τ3 h3 tk3 m3 N3 l3 S3 p3 => ?_))
    have back : ∀ f, (match (Except.ok f : Result) with | .ok f => Out prog w c τ3 (fun τ' => FP Pn (fun _ _ => False) (fun _ _ => False) Pr τ' f) (c.s h3 tk3) | .error _ => False) → (match (Except.ok f : Result) with | .ok f => Out prog w c τ (fun τ' => FP Pn (fun _ _ => False) (fun _ _ => False) Pr τ' f) (c.s h3 tk3) | .error _ => False) := fun f o => Out.le (l1.trans l3) o
    have go : ∀ q : Wh prog w c env test body m3 N3 Pn Pr, codeAny (model prog w) c.A (.whileLoop test body [] env) (fun r s' => match r with
        | .ok f => Out prog w c τ (fun τ' => FP Pn (fun _ _ => False) (fun _ _ => False) Pr τ' f) s'
        | .error _ => False) (c.s h3 tk3) := fun q => codeAny_mono ((q τ3).run h3 tk3 S3) fun r s' hr => by
      cases r with
      | ok f => exact Out.le (l1.trans l3) hr
      | error e => exact hr
    cases f with
    | next => exact wpAny_pure ⟨rfl, go p3⟩
    | cont => exact wpAny_pure ⟨rfl, go p3⟩
    | brk => exact wpAny_pure (Out.le (l1.trans l3) (Out.here S3 p3))
    | ret v => exact wpAny_pure (Out.le (l1.trans l3) (Out.here (P := fun τ' => FP Pn (fun _ _ => False) (fun _ _ => False) Pr τ' (.ret v)) S3 p3))⟩

/- objects taken among what is kept -/
noncomputable def Cx.with (c : Cx) (h : Heap) (fp : List Addr) : Cx := { c with B := fun a => if a ∈ fp then h.get? a else c.B a }
theorem Cx.with_ext {c : Cx} {h : Heap} {fp : List Addr} (k : ∀ a ∈ fp, ∀ o, c.B a = some o → h.get? a = some o) : Ext c (c.with h fp) :=
  ⟨rfl, rfl, rfl, rfl, rfl, fun a o e => by
    show (if a ∈ fp then h.get? a else c.B a) = some o
    split
    · exact k a (by assumption) o e
    · exact e, fun _ _ e => e⟩
theorem St.with {c : Cx} {τ : TM} {tk : Nat} {h : Heap} {m : LM} {N : NM} {fp : List Addr} (S : St prog w c τ tk h m N) (hL : c.L ∉ fp) (hN : ∀ a ∈ fp, N a = none) : St prog w (c.with h fp) τ tk h m N := by
  refine ⟨S.ns, fun a o e => ?_, ?_, fun a o e => ?_, fun a o e => ?_, S.tok, S.pos⟩
  · change (if a ∈ fp then h.get? a else c.B a) = some o at e
    split at e
    · exact e
    · exact S.keep a o e
  · show (if c.L ∈ fp then h.get? c.L else c.B c.L) = none
    rw [if_neg hL]; exact S.offL
  · refine hideG fun G9 kG9 => ?_
    obtain ⟨h1, h2, h3⟩ := S.obj a o e
    refine kG9 ?_
    clear kG9
    refine ⟨h1, ?_, h3⟩
    show (if a ∈ fp then h.get? a else c.B a) = none
    rw [if_neg fun q => by rw [hN a q] at e; cases e]; exact h2
  · refine hideG fun G9 kG9 => ?_
    obtain ⟨k, h1, h2⟩ := S.fz a o e
    refine kG9 ?_
    clear kG9
    refine ⟨k, ?_, h2⟩
    show (if a ∈ fp then h.get? a else c.B a) = some k
    split
    · exact S.keep a k h1
    · exact h1

inductive ForI (prog : Program) (w : World) (c : Cx) (τ : TM) (n : Nat) (fp : List Addr) (Si : Nat → Heap → Prop) (J : Nat → LM → NM → Prop) (q : Nat) (s : Shared) : Prop where
  | mk (i : Nat) (τ1 : TM) (h : Heap) (tk : Nat) (m : LM) (N : NM) (eq : q = n + 1 - i) (hi : i ≤ n) (es : s = c.s h tk) (l1 : τ.le τ1) (S : St prog w c τ1 tk h m N) (hN : ∀ a ∈ fp, N a = none) (hsi : Si i h) (hj : J i m N)
/- for, over an iterator that walks n values -/
theorem for_walk {x : Str} {px : Pos} {body : List Stmt} {it : Addr} {fp wr : List Addr} {n : Nat} {Pv : Nat → Value → Prop} {Si : Nat → Heap → Prop} (W : Walks prog w c.A it fp wr n Pv Si) (ds : Nat → V) (hds : ∀ τ i v, i < n → Pv i v → (ds i).is τ v)
    (hL : env.locals = c.L) (hk : env.scope.kind = .function) (hx : env.kindOf x = some .local) (hfL : c.L ∉ fp)
    (J : Nat → LM → NM → Prop) (hB : ∀ a ∈ fp, c.B a = none) (hex : ∀ i h, Si i h → ∀ a ∈ fp, ∃ o, h.get? a = some o)
    (turn : ∀ c' i m N, Ext c c' → i < n → J i m N → Es prog w c' env body (m.put x (ds i)) N (J (i + 1)) Pn (J (i + 1)) Pr) (fin : ∀ m N, J n m N → Pn m N)
    {τ : TM} {h : Heap} {tk : Nat} (S : St prog w c τ tk h m N) (hN : ∀ a ∈ fp, N a = none) (hsi : Si 0 h) (hj : J 0 m N) :
    codeAny (model prog w) c.A (.forLoop (.Name x px) (.ref it) body [] env) (fun r s' => match r with
    | .ok f => Out prog w c τ (fun τ' => FP Pn (fun _ _ => False) (fun _ _ => False) Pr τ' f) s'
    | .error _ => False) (c.s h tk) := by
  refine codeAny_forLoop (ForI prog w c τ n fp Si J) (fun q s hq => ?_) (n + 1) ⟨0, τ, h, tk, m, N, rfl, Nat.zero_le _, rfl, .refl τ, S, hN, hsi, hj⟩
  refine hideG fun G9 kG9 => ?_
  obtain ⟨i, τ1, h, tk, m, N, rfl, hi, rfl, l1, S, hN, hsi, hj⟩ := hq
  refine kG9 ?_
  clear kG9
  refine wpAny_with_toks (n := tk) (Nat.le_refl _) ?_
  by_cases hlt : i < n
  · refine W.item i (c.s h tk) _ _ hlt hsi fun v h1 tk1 hP hsi1 hk1 hle => ?_
    have S1 : St prog w c τ1 tk1 h1 m N := (S.grow' hk1 (fun q => hfL (W.sub _ q)) (fun a q => hB a (W.sub _ q)) fun a q => hN a (W.sub _ q)).later hle
    have hd := hds τ1 i v hlt hP
    refine hideG fun G9 kG9 => ?_
    obtain ⟨mm, hn, hm⟩ := S1.ns
    refine kG9 ?_
    clear kG9
    refine wpAny_assign_Name (wpAny_storeName_local hx (by rw [hL]; exact hn) (fun h2 hn2 hs2 => ?_) (by rw [hk]; rfl))
    rw [hL] at hn2 hs2
    have S2 := (((S1.store hm hd hn2 hs2).later (Nat.le_succ _)).with (c := c) hfL hN)
    have hkeep : ∀ b ∈ fp, ∀ o, h1.get? b = some o → (c.with h2 fp).B b = some o := fun b hb o e => by
      show (if b ∈ fp then h2.get? b else c.B b) = some o
      rw [if_pos hb]; exact (hs2.2 b fun q => hfL (q ▸ hb)).trans e
    have X : Ext c (c.with h2 fp) := Cx.with_ext fun a ha o e => by rw [hB a ha] at e; cases e
    refine wgo ((turn (c.with h2 fp) i m N X hlt hj τ1).run h2 (tk1 + 1) S2) (fun f τ3 h3 tk3 m3 N3 l3 S3 p3 => ?_)
    have S3' : St prog w c τ3 tk3 h3 m3 N3 := S3.ofExt X (S1.fzm l3)
    have hN3 : ∀ a ∈ fp, N3 a = none := fun a ha => by
      cases e : N3 a with
      | none => rfl
      | some o =>
        obtain ⟨k, hk⟩ := hex _ _ hsi1 a ha
        have := (S3.obj a o e).2.1
        rw [hkeep a ha k hk] at this; cases this
    have hsi3 : Si (i + 1) h3 := W.frame _ _ _ hsi1 fun b hb o e => S3.keep b o (hkeep b hb o e)
    cases f with
    | next => exact ⟨n + 1 - (i + 1), by lia, i + 1, τ3, h3, tk3, m3, N3, rfl, hlt, rfl, l1.trans l3, S3', hN3, hsi3, p3⟩
    | cont => exact ⟨n + 1 - (i + 1), by lia, i + 1, τ3, h3, tk3, m3, N3, rfl, hlt, rfl, l1.trans l3, S3', hN3, hsi3, p3⟩
    | brk => exact ⟨τ3, h3, tk3, m3, N3, rfl, l1.trans l3, S3', p3⟩
    | ret v => exact ⟨τ3, h3, tk3, m3, N3, rfl, l1.trans l3, S3', p3⟩
  · have hin : i = n := by lia
    subst hin
    refine W.done (c.s h tk) _ _ hsi fun h' tk' hk' hle => wpAny_execs_nil ?_
    exact Out.le l1 (Out.here ((S.grow' hk' (fun q => hfL (W.sub _ q)) (fun a q => hB a (W.sub _ q)) fun a q => hN a (W.sub _ q)).later hle) (fin m N hj))
end
end Mine
end PartC4
section PartC5
open PySem PySem.W PyProof.Rows
set_option linter.unusedVariables false
namespace Mine
section
variable {prog : Program} {w : World} {c : Cx} {env : Env} {m : LM} {N : NM} {Pn Pb Pc : LM → NM → Prop} {Pr : V → LM → NM → Prop} {P : V → LM → NM → Prop}

/- range -/
theorem Ca.range1 {n : Int} (h : ∀ a, N a = none → P (.ref a) m (N.put a (.rng 0 n 1))) : Ca prog w c (.ty "range") [.int n] m N P := by
  rintro τ vf vs rfl hvs
  refine ⟨fun H tk S => ?_⟩
  refine hideG fun G9 kG9 => ?_
  obtain ⟨_, rfl, t, rfl⟩ := hvs.one
  refine kG9 ?_
  clear kG9
  exact call_range_1 (s := c.s H tk) (Out.alloc (o := .rng 0 n 1) (S.later (Nat.le_add_right tk 2)) ⟨_, _, _, rfl⟩ rfl h)
theorem Ca.range2 {i j : Int} (h : ∀ a, N a = none → P (.ref a) m (N.put a (.rng i j 1))) : Ca prog w c (.ty "range") [.int i, .int j] m N P := by
  rintro τ vf vs rfl hvs
  refine ⟨fun H tk S => ?_⟩
  refine hideG fun G9 kG9 => ?_
  obtain ⟨_, _, rfl, ⟨t, rfl⟩, u, rfl⟩ := hvs.two
  refine kG9 ?_
  clear kG9
  exact call_range_2 (s := c.s H tk) (Out.alloc (o := .rng i j 1) (S.later (Nat.le_succ _)) ⟨_, _, _, rfl⟩ rfl h)
theorem Ca.range3 {i j k : Int} (hk : k ≠ 0) (hp : Builtin.divisionGoesByPylong (j - i) k = false) (h : ∀ a, N a = none → P (.ref a) m (N.put a (.rng i j k))) : Ca prog w c (.ty "range") [.int i, .int j, .int k] m N P := by
  rintro τ vf vs rfl hvs
  refine ⟨fun H tk S => ?_⟩
  refine hideG fun G9 kG9 => ?_
  obtain ⟨_, _, _, rfl, ⟨t, rfl⟩, ⟨u, rfl⟩, x, rfl⟩ := hvs.three
  refine kG9 ?_
  clear kG9
  exact call_range_3 (s := c.s H tk) hk (Out.alloc (o := .rng i j k) S ⟨_, _, _, rfl⟩ rfl h) (.inl hp)
/- list(range(..)) -/
theorem Ca.listRange {a : Addr} {i j k : Int} {n : Nat} (hh : c.A.handled = none) (hr : Rd c N a (.rng i j k)) (hsmall : Builtin.Range.small i j k = true) (hn : Builtin.Range.rangeSize i j k = n) (hlen : n ≤ 2 ^ 24)
    (h : ∀ b, N b = none → P (.ref b) m (N.put b (.list ((List.range n).map fun q : Nat => V.int (i + q * k))))) : Ca prog w c (.ty "list") [.ref a] m N P := by
  rintro τ vf vs rfl hvs
  refine Ta.mk' fun H tk S => ?_
  refine hideG fun G9 kG9 => ?_
  obtain ⟨_, rfl, rfl⟩ := hvs.one
  obtain ⟨o, e, t, u, x, rfl⟩ := S.rd hr
  refine kG9 ?_
  clear kG9
  refine call_list_range (s := c.s H tk) hh e hsmall hn hlen fun h' tk' acc c' hk hS hacc hle => ?_
  refine ⟨τ, h', tk', m, _, rfl, .refl τ, (S.add (o := .list _) (Nat.le_refl _) hk hS ⟨acc.toList, c', by simp, VS.of_get ?_ fun q d v h1 h2 => ?_⟩).later hle, .ref _, rfl, h _ (S.fresh (Nat.le_refl _)).1⟩
  · have := hacc.1
    simp [this]
  · obtain ⟨t', e'⟩ := hacc.2 q v (by simpa using h2)
    have hq : q < n := by
      have := (List.getElem?_eq_some_iff.mp h1).1
      simpa using this
    rw [List.getElem?_map, List.getElem?_range hq] at h1
    simp only [Option.map_some, Option.some.injEq] at h1
    subst h1 e'
    exact ⟨t', rfl⟩
theorem Ex.forRange {x : Str} {px pos : Pos} {iter : Expr} {body : List Stmt} (n : Nat) (lo : Int) (J : Nat → LM → NM → Prop) (hh : c.A.handled = none) (hL : env.locals = c.L) (hk : env.scope.kind = .function) (hx : env.kindOf x = some .local)
    (h : Ev prog w c env iter m N (fun d m1 N1 => ∃ a hi, d = .ref a ∧ N1 a = some (.rng lo hi 1) ∧ -(2 ^ 62) ≤ lo ∧ lo < 2 ^ 62 ∧ -(2 ^ 62) ≤ hi ∧ hi < 2 ^ 62 ∧ n = (hi - lo).toNat ∧ J 0 m1 N1))
    (turn : ∀ c' i m N, Ext c c' → i < n → J i m N → Es prog w c' env body (m.put x (.int (lo + (i : Nat)))) N (J (i + 1)) Pn (J (i + 1)) Pr) (fin : ∀ m N, J n m N → Pn m N)
    (hs : ∀ x, foldedSetIterable iter env x = Pure.pure x := by intro _; rfl) : Ex prog w c env (.For (.Name x px) iter body [] pos) m N Pn Pb Pc Pr := fun τ => ⟨fun H tk S => by
  refine wpAny_For (wgo2 ((h τ).run H tk S) (fun v τ1 h1 tk1 m1 N1 l1 S1 d hd oo => ?_)) hs
  refine hideG fun G9 kG9 => ?_
  obtain ⟨a, hi, ed, ha, b1, b2, b3, b4, hn, hj⟩ := oo
  refine kG9 ?_
  clear kG9
  subst ed
  cases hd
  refine hideG fun G9 kG9 => ?_
  obtain ⟨o, eo, t, u, y, rfl⟩ := S1.get ha
  refine kG9 ?_
  clear kG9
  refine wpAny_pyIter_range (s := c.s h1 tk1) eo (small_one b1 b2 b3 b4) ?_
  have f := S1.fresh (Nat.le_refl h1.objs.size)
  have hrs : Builtin.Range.rangeSize lo hi 1 = (n : Int) := by rw [rangeSize_one, hn]; split <;> lia
  refine codeAny_mono (for_walk (N := N1) (m := m1) (τ := τ1) (Walks.range (prog := prog) (w := w) (A := c.A) hh h1.objs.size lo 1 n) (fun i => .int (lo + (i : Nat))) (fun τ i v _ ⟨t, e⟩ => ⟨t, by rw [e, Int.mul_one]⟩) hL hk hx (fun q => f.2.2 (List.mem_singleton.mp q).symm) J
    (fun b hb => by rw [List.mem_singleton.mp hb]; exact f.2.1) (fun i h e b hb => by rw [List.mem_singleton.mp hb]; exact ⟨_, e⟩) turn fin (S1.grow fun b o e => Heap.get?_push_of_some _ e) (fun b hb => by rw [List.mem_singleton.mp hb]; exact f.1) ?_ hj) fun r s' hr => ?_
  · show Heap.get? _ h1.objs.size = _
    rw [show (c.s h1 tk1).heap = h1 from rfl, Heap.get?_push_size _ rfl, hrs]
    simp
  · cases r with
    | ok f => exact Out.le l1 (hr.mono fun _ _ _ p => p.mono (fun _ _ x => x) (fun _ _ x => x.elim) (fun _ _ x => x.elim) fun _ _ _ x => x)
    | error e => exact hr.elim⟩

/- a def of the program's, called -/
noncomputable def LM.of (names : List Str) (as : List V) : LM := fun x => (names.zip as).reverse.lookup x
theorem lookup_app {α : Type} (x : Str) : ∀ (l l' : List (Str × α)), (l ++ l').lookup x = (l.lookup x).or (l'.lookup x)
  | [], _ => by simp
  | (y, d) :: l, l' => by
    rw [List.cons_append, List.lookup_cons, List.lookup_cons]
    split
    · simp
    · exact lookup_app x l l'
theorem LM.of_no {τ : TM} : ∀ {names : List Str} {as : List V} {vs : List Value}, VS τ as vs → ∀ {x : Str} {u : Value}, (names.zip vs).reverse.lookup x = some u → (names.zip as).reverse.lookup x ≠ none
  | [], _, _, _, _, _, e => by simp at e
  | _ :: _, _, [], _, _, _, e => by simp at e
  | n :: names, a :: as, v :: vs, h, x, u, e => by
    rw [List.zip_cons_cons, List.reverse_cons, lookup_app] at e ⊢
    intro q
    rw [Option.or_eq_none_iff] at q
    cases z : (names.zip vs).reverse.lookup x with
    | some u' => exact LM.of_no h.2 z q.1
    | none =>
      rw [z] at e
      simp only [Option.none_or, List.lookup_cons] at e q
      split at e
      · rename_i hx; rw [hx] at q; exact absurd q.2 (by simp)
      · simp at e
  | _ :: _, [], _ :: _, h, _, _, _ => h.elim
theorem LM.of_is {τ : TM} : ∀ {names : List Str} {as : List V} {vs : List Value}, VS τ as vs → ∀ {x : Str} {d : V}, (names.zip as).reverse.lookup x = some d → ∃ v, (names.zip vs).reverse.lookup x = some v ∧ d.is τ v
  | [], _, _, _, _, _, e => by simp at e
  | _ :: _, [], _, _, _, _, e => by simp at e
  | n :: names, a :: as, v :: vs, h, x, d, e => by
    rw [List.zip_cons_cons, List.reverse_cons, lookup_app] at e ⊢
    cases q : (names.zip as).reverse.lookup x with
    | some d' =>
      rw [q] at e
      cases e
      refine hideG fun G9 kG9 => ?_
      obtain ⟨u, h1, h2⟩ := LM.of_is h.2 q
      refine kG9 ?_
      clear kG9
      exact ⟨u, by rw [h1]; rfl, h2⟩
    | none =>
      rw [q] at e
      have q' : (names.zip vs).reverse.lookup x = none := by
        cases z : (names.zip vs).reverse.lookup x with
        | none => rfl
        | some u => exact absurd q (LM.of_no h.2 z)
      rw [q']
      simp only [Option.none_or] at e ⊢
      rw [List.lookup_cons] at e ⊢
      split at e
      · cases e; exact ⟨v, rfl, h.1⟩
      · simp at e
  | _ :: _, _ :: _, [], h, _, _, _ => h.elim
theorem Ca.fn {f : Addr} {as : List V} {fd : FuncData} {body : List Stmt} {oc : Value} {od : Option Addr} {osl : Array (Option Value)} {names : List Str} (hB : Bs w c.B) (hroom : c.A.depth < recursionLimit)
    (ho : (hd.heap_39 w.params).lookup f = some ⟨oc, od, .func fd, osl⟩) (hcd : codeIn (hd.heap_39 w.params) fd.code fd.qualname = true) (hbody : fd.body = .stmts body)
    (hbind : ∀ vs : List Value, vs.length = as.length → bindArgs fd ⟨vs, []⟩ = pure (names.zip vs)) (hlen : as.length = names.length)
    (hcell : ∀ x ∈ fd.scope.names, x.2 ≠ .cell) (hloc : ∀ x ∈ names, fd.scope.names.lookup x = some .local)
    (h : ∀ c' : Cx, c'.A = c.A.deeper (callEnv fd c'.L f) → Bs w c'.B → c'.F = c.F →
      Es prog w c' (callEnv fd c'.L f) body (LM.of names as) N (fun _ N' => P .none m N') (fun _ _ => False) (fun _ _ => False) (fun d _ N' => P d m N'))
    (hco : fd.scope.isCoroutine = false) (hgen : fd.scope.isGenerator = false) (hk : fd.scope.kind = .function) : Ca prog w c (.ref f) as m N P := by
  rintro τ vf vs rfl hvs
  refine ⟨fun H tk S => ?_⟩
  refine hideG fun G9 kG9 => ?_
  obtain ⟨mg, mb, _, _, hlim, _, _⟩ := hB.T H S.keep
  refine kG9 ?_
  clear kG9
  refine wpAny_call (codeAny_call_def (s := c.s H tk) (binds := names.zip vs) hroom (hB.in S.keep _ _ ho) rfl hlim (codeRec_of (hB.in S.keep) hcd) hbody (BindsTo.of_eq (hbind vs hvs.length)) hcell ?_ (fun h₀ hns hkeep => ?_) hco hgen hk)
  · intro x hx
    exact hloc _ (List.of_mem_zip hx).1
  · let c' : Cx := { c with A := c.A.deeper (callEnv fd H.objs.size f), B := fun a => if (N a).isSome then none else H.get? a, L := H.objs.size }
    have hBB : ∀ a o, c.B a = some o → c'.B a = some o := fun a o e => by
      show (if (N a).isSome then none else H.get? a) = some o
      have : N a = none := by
        cases q : N a with
        | none => rfl
        | some x => have := (S.obj a x q).2.1; rw [e] at this; cases this
      rw [this]; exact S.keep a o e
    have hLo : c'.B c.L = H.get? c.L := by
      show (if (N c.L).isSome then none else H.get? c.L) = _
      have : N c.L = none := by
        cases q : N c.L with
        | none => rfl
        | some x => exact absurd rfl (S.obj _ x q).1
      rw [this]; rfl
    have S' : St prog w c' τ (tk + (names.zip vs).length) h₀ (LM.of names as) N := by
      refine ⟨⟨_, hns, fun x d e => LM.of_is hvs e⟩, fun a o e => ?_, ?_, fun a o e => ?_, fun a o e => ?_, fun t u e => Nat.lt_of_lt_of_le (S.tok t u e) (Nat.le_add_right _ _), Nat.lt_of_lt_of_le S.pos (Nat.le_add_right _ _)⟩
      · change (if (N a).isSome then none else H.get? a) = some o at e
        split at e
        · cases e
        · exact hkeep a o e
      · show (if (N H.objs.size).isSome then none else H.get? H.objs.size) = none
        split
        · rfl
        · cases q : H.get? H.objs.size with
          | none => rfl
          | some o => exact absurd (Heap.lt_size q) (Nat.lt_irrefl _)
      · refine hideG fun G9 kG9 => ?_
        obtain ⟨k, e1, is⟩ := S.get e
        refine kG9 ?_
        clear kG9
        refine ⟨Nat.ne_of_lt (Heap.lt_size e1), ?_, k, hkeep a k e1, is⟩
        show (if (N a).isSome then none else H.get? a) = none
        rw [e]; rfl
      · refine hideG fun G9 kG9 => ?_
        obtain ⟨k, h1, h2⟩ := S.fz a o e
        refine kG9 ?_
        clear kG9
        exact ⟨k, hBB a k h1, h2⟩
    refine wgo ((h c' rfl (hB.mono hBB) rfl τ).run h₀ _ S') (fun fl τ1 h' tk' m' N' l1 S1 p => ?_)
    have back : St prog w c τ1 tk' h' m N' := by
      refine hideG fun G9 kG9 => ?_
      obtain ⟨mm, hn, hm⟩ := S.ns
      refine kG9 ?_
      clear kG9
      refine ⟨⟨mm, hn.at' fun o e => S1.keep _ o (hLo.trans e), fun x d e => let ⟨v, a, b⟩ := hm x d e; ⟨v, a, b.mono l1⟩⟩, fun a o e => S1.keep a o (hBB a o e), S.offL, fun a o e => ?_, S.fzm l1, S1.tok, S1.pos⟩
      refine hideG fun G9 kG9 => ?_
      obtain ⟨x1, x2, x3⟩ := S1.obj a o e
      refine kG9 ?_
      clear kG9
      refine ⟨fun q => ?_, ?_, x3⟩
      · refine hideG fun G9 kG9 => ?_
        obtain ⟨oL, _, _, hoL, _⟩ := hn
        refine kG9 ?_
        clear kG9
        rw [q, hLo, hoL] at x2; cases x2
      · cases q : c.B a with
        | none => rfl
        | some o' => rw [hBB a o' q] at x2; cases x2
    cases fl with
    | next => exact ⟨τ1, h', tk', m, N', rfl, l1, back, .none, rfl, p⟩
    | brk => exact p.elim
    | cont => exact p.elim
    | ret v => obtain ⟨d, hd, p⟩ := p; exact ⟨τ1, h', tk', m, N', rfl, l1, back, d, hd, p⟩
end
end Mine
end PartC5
section PartC6
open PySem PySem.W PyProof.Rows
set_option linter.unusedVariables false
namespace Mine
section
variable {prog : Program} {w : World} {c : Cx} {env : Env} {m : LM} {N : NM} {Pn Pb Pc : LM → NM → Prop} {Pr : V → LM → NM → Prop} {P : V → LM → NM → Prop}

/- ints -/
theorem Bi.addI {a b : Int} (h : P (.int (a + b)) m N) : Bi prog w c .Add (.int a) (.int b) m N P := by
  rintro τ _ _ ⟨t, rfl⟩ ⟨u, rfl⟩
  refine ⟨fun H tk S => ?_⟩
  with_reducible refine add_int ?_
  exact Out.val (d := .int (a + b)) (S.later (Nat.le_succ _)) ⟨_, rfl⟩ h
theorem Bi.subI {a b : Int} (h : P (.int (a - b)) m N) : Bi prog w c .Sub (.int a) (.int b) m N P := by
  rintro τ _ _ ⟨t, rfl⟩ ⟨u, rfl⟩
  refine ⟨fun H tk S => ?_⟩
  with_reducible refine sub_int ?_
  exact Out.val (d := .int (a - b)) (S.later (Nat.le_succ _)) ⟨_, rfl⟩ h
theorem Bi.mulI {a b : Int} (h1 : -(2 ^ 64) < a) (h2 : a < 2 ^ 64) (h : P (.int (a * b)) m N) : Bi prog w c .Mult (.int a) (.int b) m N P := by
  rintro τ _ _ ⟨t, rfl⟩ ⟨u, rfl⟩
  refine ⟨fun H tk S => ?_⟩
  with_reducible refine mul_int ?_ (IntMulOk.of_left (intBits_le_64 h1 h2))
  exact Out.val (d := .int (a * b)) (S.later (Nat.le_succ _)) ⟨_, rfl⟩ h
theorem Bi.divI {a b : Int} (h0 : b ≠ 0) (h1 : b.natAbs < 1073741824) (h : P (.int (a.fdiv b)) m N) : Bi prog w c .FloorDiv (.int a) (.int b) m N P := by
  rintro τ _ _ ⟨t, rfl⟩ ⟨u, rfl⟩
  refine ⟨fun H tk S => ?_⟩
  with_reducible refine floordiv_int h0 ?_ (.inl (PyProof.noPylong_small h1))
  exact Out.val (d := .int (a.fdiv b)) (S.later (Nat.le_succ _)) ⟨_, rfl⟩ h
theorem Bi.modI {a b : Int} (h0 : b ≠ 0) (h : P (.int (a.fmod b)) m N) : Bi prog w c .Mod (.int a) (.int b) m N P := by
  rintro τ _ _ ⟨t, rfl⟩ ⟨u, rfl⟩
  refine ⟨fun H tk S => ?_⟩
  with_reducible refine mod_int' h0 ?_
  exact Out.val (d := .int (a.fmod b)) (S.later (Nat.le_succ _)) ⟨_, rfl⟩ h
theorem Bi.shrI {a : Int} (h0 : 0 ≤ a) (h : P (.int (a / 2)) m N) : Bi prog w c .RShift (.int a) (.int 1) m N P := by
  rintro τ _ _ ⟨t, rfl⟩ ⟨u, rfl⟩
  refine ⟨fun H tk S => ?_⟩
  with_reducible refine wpAny_rshift1_int h0 ?_
  exact Out.val (d := .int (a / 2)) (S.later (Nat.le_succ _)) ⟨_, rfl⟩ h
theorem Ib.addI {a b : Int} (h : P (.int (a + b)) m N) : Ib prog w c .Add (.int a) (.int b) m N P := by
  rintro τ _ _ ⟨t, rfl⟩ ⟨u, rfl⟩
  refine ⟨fun H tk S => ?_⟩
  with_reducible refine iadd_int ?_
  exact Out.val (d := .int (a + b)) (S.later (Nat.le_succ _)) ⟨_, rfl⟩ h
theorem Ib.subI {a b : Int} (h : P (.int (a - b)) m N) : Ib prog w c .Sub (.int a) (.int b) m N P := by
  rintro τ _ _ ⟨t, rfl⟩ ⟨u, rfl⟩
  refine ⟨fun H tk S => ?_⟩
  with_reducible refine isub_int ?_
  exact Out.val (d := .int (a - b)) (S.later (Nat.le_succ _)) ⟨_, rfl⟩ h
/- x += e -/
theorem Ex.aug {x : Str} {op : Operator} {pos pos' : Pos} {e : Expr} {d : V} (hL : env.locals = c.L) (hk : env.scope.kind = .function) (hx : env.kindOf x = some .local) (hd : m x = some d)
    (h : Ev prog w c env e m N (fun b m1 N1 => Ib prog w c op d b m1 N1 (fun r m2 N2 => Pn (m2.put x r) N2))) : Ex prog w c env (.AugAssign (.Name x pos') op e pos) m N Pn Pb Pc Pr := fun τ => ⟨fun H tk S => by
  obtain ⟨mm, hn, hm⟩ := S.ns
  obtain ⟨v, hv, is⟩ := hm x d hd
  refine wpAny_AugAssign_Name (wpAny_loadName_local hk hx (by rw [hL]; exact hn) hv (wgo2 ((h τ).run H tk S) (fun vb τ1 h1 tk1 m1 N1 l1 S1 b hb p => ?_)))
  refine wgo2 ((p τ1 v vb (is.mono l1) hb).run h1 tk1 S1) (fun vr τ2 h2 tk2 m2 N2 l2 S2 r hr q => ?_)
  exact wpAny_mono ((Sn.local (prog := prog) (w := w) (c := c) (P := Pn) hL hk hx q τ2 vr hr).run h2 tk2 S2) (fun _ _ o => o.le (l1.trans l2)) fun _ _ x => x⟩
theorem Cp.ltI {a b : Int} (h : P (.bool (decide (a < b))) m N) : Cp prog w c .Lt (.int a) (.int b) m N P := by
  rintro τ _ _ ⟨t, rfl⟩ ⟨u, rfl⟩
  refine ⟨fun H tk S => ?_⟩
  with_reducible refine lt_int ?_
  exact Out.val (d := .bool _) S rfl h
theorem Cp.gtI {a b : Int} (h : P (.bool (decide (b < a))) m N) : Cp prog w c .Gt (.int a) (.int b) m N P := by
  rintro τ _ _ ⟨t, rfl⟩ ⟨u, rfl⟩
  refine ⟨fun H tk S => ?_⟩
  with_reducible refine gt_int ?_
  exact Out.val (d := .bool _) S rfl h
theorem Cp.eqI {a b : Int} (h : P (.bool (a == b)) m N) : Cp prog w c .Eq (.int a) (.int b) m N P := by
  rintro τ _ _ ⟨t, rfl⟩ ⟨u, rfl⟩
  refine ⟨fun H tk S => ?_⟩
  with_reducible refine eq_int ?_
  exact Out.val (d := .bool _) S rfl h
theorem Cp.neI {a b : Int} (h : P (.bool (a != b)) m N) : Cp prog w c .NotEq (.int a) (.int b) m N P := by
  rintro τ _ _ ⟨t, rfl⟩ ⟨u, rfl⟩
  refine ⟨fun H tk S => ?_⟩
  with_reducible refine ne_int ?_
  exact Out.val (d := .bool _) S rfl h

/- floats -/
theorem Bi.mulF {a b : UInt64} (h : P (.flt (Float64.mul a b)) m N) : Bi prog w c .Mult (.flt a) (.flt b) m N P := by
  rintro τ _ _ ⟨t, rfl, _⟩ ⟨u, rfl, _⟩
  refine ⟨fun H tk S => ?_⟩
  with_reducible refine mul_float ?_
  exact Out.flt S h
theorem Bi.addF {a b : UInt64} (h : P (.flt (Float64.add a b)) m N) : Bi prog w c .Add (.flt a) (.flt b) m N P := by
  rintro τ _ _ ⟨t, rfl, _⟩ ⟨u, rfl, _⟩
  refine ⟨fun H tk S => ?_⟩
  with_reducible refine add_float ?_
  exact Out.flt S h
theorem Bi.subF {a b : UInt64} (h : P (.flt (Float64.sub a b)) m N) : Bi prog w c .Sub (.flt a) (.flt b) m N P := by
  rintro τ _ _ ⟨t, rfl, _⟩ ⟨u, rfl, _⟩
  refine ⟨fun H tk S => ?_⟩
  with_reducible refine sub_float ?_
  exact Out.flt S h
theorem Bi.divF {a b : UInt64} (h0 : ¬ Float64.isZero b = true) (h : P (.flt (Float64.div a b)) m N) : Bi prog w c .Div (.flt a) (.flt b) m N P := by
  rintro τ _ _ ⟨t, rfl, _⟩ ⟨u, rfl, _⟩
  refine ⟨fun H tk S => ?_⟩
  with_reducible refine AutoFloatOps.truediv_1 h0 ?_
  exact Out.flt S h
theorem Bi.modF {a b : UInt64} (h0 : ¬ Float64.isZero b = true) (h : P (.flt (Float64.divmod a b).snd) m N) : Bi prog w c .Mod (.flt a) (.flt b) m N P := by
  rintro τ _ _ ⟨t, rfl, _⟩ ⟨u, rfl, _⟩
  refine ⟨fun H tk S => ?_⟩
  with_reducible refine AutoFloatOps.mod_1 h0 ?_
  exact Out.flt S h
theorem Bi.subFI {a : UInt64} {n : Int} (h0 : n.natAbs < 2 ^ 1023) (h : P (.flt (Float64.sub a (Float64.ofInt n))) m N) : Bi prog w c .Sub (.flt a) (.int n) m N P := by
  rintro τ _ _ ⟨t, rfl, _⟩ ⟨u, rfl⟩
  refine ⟨fun H tk S => ?_⟩
  with_reducible refine sub_fi_fits h0 ?_
  exact Out.flt S h
theorem Bi.divII {a b : Int} (h0 : b ≠ 0) (h1 : Float64.isInf (Float64.ofFrac (decide (a < 0) != decide (b < 0)) a.natAbs b.natAbs) = false) (h : P (.flt (Float64.ofFrac (decide (a < 0) != decide (b < 0)) a.natAbs b.natAbs)) m N) : Bi prog w c .Div (.int a) (.int b) m N P := by
  rintro τ _ _ ⟨t, rfl⟩ ⟨u, rfl⟩
  refine ⟨fun H tk S => ?_⟩
  with_reducible refine AutoIntOps.truediv_2 (by simpa using h0) (by rw [h1]; exact Bool.false_ne_true) ?_
  exact Out.flt S h
theorem Cp.ltF {a b : UInt64} (h : P (.bool (Float64.cmp a b == some Ordering.lt)) m N) : Cp prog w c .Lt (.flt a) (.flt b) m N P := by
  rintro τ _ _ ⟨t, rfl, _⟩ ⟨u, rfl, _⟩
  refine ⟨fun H tk S => ?_⟩
  with_reducible refine AutoFloatOps.lt_0 ?_
  exact Out.val (d := .bool _) S rfl h
theorem Cp.leF {a b : UInt64} (h : P (.bool (Float64.cmp a b == some Ordering.lt || Float64.cmp a b == some Ordering.eq)) m N) : Cp prog w c .LtE (.flt a) (.flt b) m N P := by
  rintro τ _ _ ⟨t, rfl, _⟩ ⟨u, rfl, _⟩
  refine ⟨fun H tk S => ?_⟩
  with_reducible refine AutoFloatOps.le_0 ?_
  exact Out.val (d := .bool _) S rfl h
theorem Cp.eqF {a b : UInt64} (h : P (.bool (Float64.cmp a b == some Ordering.eq)) m N) : Cp prog w c .Eq (.flt a) (.flt b) m N P := by
  rintro τ _ _ ⟨t, rfl, _⟩ ⟨u, rfl, _⟩
  refine ⟨fun H tk S => ?_⟩
  with_reducible refine AutoFloatOps.eq_0 ?_
  exact Out.val (d := .bool _) S rfl h
/- int(x) -/
theorem Ca.intF {x : UInt64} {sg : Bool} {k : Nat} {e : Int} (h0 : Float64.decode x = Float64.Num.fin sg k e) (h : P (.int (Float64.truncOf sg k e)) m N) : Ca prog w c (.ty "int") [.flt x] m N P := by
  rintro τ _ _ rfl hvs
  refine ⟨fun H tk S => ?_⟩
  obtain ⟨_, rfl, t, rfl, _⟩ := hvs.one
  with_reducible refine call_int_float h0 ?_
  exact Out.val (d := .int _) (S.later (Nat.le_succ _)) ⟨_, rfl⟩ h
theorem Ca.absI {a : Int} (h : P (.int (if a < 0 then -a else a)) m N) : Ca prog w c (.bi "abs") [.int a] m N P := by
  rintro τ _ _ rfl hvs
  refine Ta.mk' fun H tk S => ?_
  obtain ⟨_, rfl, t, rfl⟩ := hvs.one
  with_reducible refine call_abs_int fun u tk' hle => ?_
  exact Out.val (d := .int _) (S.later hle) ⟨_, rfl⟩ h
theorem Ca.minI {a b : Int} (hh : c.A.handled = none) (h : P (.int (if b < a then b else a)) m N) : Ca prog w c (.bi "min") [.int a, .int b] m N P := by
  rintro τ _ _ rfl hvs
  refine Ta.mk' fun H tk S => ?_
  obtain ⟨_, _, rfl, ⟨t, rfl⟩, u, rfl⟩ := hvs.two
  refine min_two_ints (s := c.s H tk) hh fun h' tk' hk hle => ⟨τ, h', tk', m, N, rfl, .refl τ, (S.grow hk).later hle, .int (if b < a then b else a), ?_, h⟩
  by_cases q : b < a
  · rw [if_pos q, if_pos q]; exact ⟨u, rfl⟩
  · rw [if_neg q, if_neg q]; exact ⟨t, rfl⟩
theorem Ca.lenL {a : Addr} {ds : List V} (hr : Rd c N a (.list ds)) (hz : ds.length < 2 ^ 62) (h : P (.int ds.length) m N) : Ca prog w c (.bi "len") [.ref a] m N P := by
  rintro τ _ _ rfl hvs
  refine Ta.mk' fun H tk S => ?_
  obtain ⟨_, rfl, rfl⟩ := hvs.one
  obtain ⟨o, e, is⟩ := S.rd hr
  obtain ⟨vs, hl, hv, _⟩ := isList_of e is
  have hz' : vs.toArray.size = ds.length := by rw [List.size_toArray, hv.length]
  refine Calls.call_len_list (s := c.s H tk) hl (by rw [hz']; lia) fun hle => ?_
  exact ⟨τ, H, _, m, N, rfl, .refl τ, S.later hle, .int ds.length, ⟨_, by rw [hz']⟩, h⟩
theorem Tu.list {a : Addr} {ds : List V} {P : Bool → LM → NM → Prop} (hr : Rd c N a (.list ds)) (hz : ds.length < 2 ^ 62) (h : P (decide (0 < ds.length)) m N) : Tu prog w c (.ref a) m N P := by
  rintro τ _ rfl
  refine Ta.mk' fun H tk S => ?_
  obtain ⟨o, e, is⟩ := S.rd hr
  obtain ⟨vs, hl, hv, _⟩ := isList_of e is
  have hz' : vs.toArray.size = ds.length := by rw [List.size_toArray, hv.length]
  refine wpAny_truthy_list (s := c.s H tk) hl (by rw [hz']; lia) fun hle => ⟨τ, H, _, m, N, rfl, .refl τ, S.later hle, ?_⟩
  have : (!vs.toArray.isEmpty) = decide (0 < ds.length) := by
    rw [← hv.length]
    cases vs <;> simp
  rw [this]; exact h
/- a name's truth -/
/- the sum of ints -/
theorem Ca.sum {a : Addr} {ns : List Int} (hh : c.A.handled = none) (hr : Rd c N a (.list (ns.map .int))) (h : ∀ z, P (.int z) m N) : Ca prog w c (.bi "sum") [.ref a] m N P := by
  rintro τ _ _ rfl hvs
  refine Ta.mk' fun H tk S => ?_
  obtain ⟨_, rfl, rfl⟩ := hvs.one
  obtain ⟨o, e, is⟩ := S.rd hr
  obtain ⟨vs, hl, hv, _⟩ := isList_of e is
  have hall : ∃ xs : Array (Int × Tok), vs.toArray = intItems xs := by
    clear hl e is hr S h
    induction ns generalizing vs with
    | nil => cases vs with | nil => exact ⟨#[], by simp [intItems]⟩ | cons _ _ => exact hv.elim
    | cons n ns ih => cases vs with
      | nil => exact hv.elim
      | cons v vs =>
        obtain ⟨⟨t, rfl⟩, hv⟩ := hv
        obtain ⟨xs, hx⟩ := ih vs hv
        refine ⟨((n, t) :: xs.toList).toArray, ?_⟩
        apply Array.toList_inj.mp
        have := congrArg Array.toList hx
        simp only [intItems, Array.toList_map] at this ⊢
        simp [this]
  obtain ⟨xs, hx⟩ := hall
  exact sum_intListG (s := c.s H tk) hh (hx ▸ hl) fun h' tk' t' hk hle => ⟨τ, h', tk', m, N, rfl, .refl τ, (S.grow hk).later hle, .int _, ⟨_, rfl⟩, h _⟩
/- k in xs -/
theorem Cp.inI {a : Addr} {ns : List Int} {k : Int} (hr : Rd c N a (.list (ns.map .int))) (h : P (.bool (decide (k ∈ ns))) m N) : Cp prog w c .In (.int k) (.ref a) m N P := by
  rintro τ _ _ ⟨t, rfl⟩ rfl
  refine ⟨fun H tk S => ?_⟩
  obtain ⟨o, e, is⟩ := S.rd hr
  obtain ⟨vs, hl, hv, _⟩ := isList_of e is
  have hi : IntsAre vs ns := by
    clear hl e is hr S h
    induction ns generalizing vs with
    | nil => cases vs with | nil => exact .nil | cons _ _ => exact hv.elim
    | cons n ns ih => cases vs with
      | nil => exact hv.elim
      | cons v vs => obtain ⟨⟨t, rfl⟩, hv⟩ := hv; exact .cons _ _ (ih vs hv)
  refine in_list_ints (s := c.s H tk) hl hi ?_
  have : (ns.any fun x => x == k) = decide (k ∈ ns) := by
    rw [Bool.eq_iff_iff]; simp
  rw [this]; exact Out.val (d := .bool _) S rfl h
/- the largest, the least of three floats -/
noncomputable def maxF3 (a b d : UInt64) : UInt64 := if Float64.cmp b a == some .gt then (if Float64.cmp d b == some .gt then d else b) else (if Float64.cmp d a == some .gt then d else a)
noncomputable def minF3 (a b d : UInt64) : UInt64 := if Float64.cmp b a == some .lt then (if Float64.cmp d b == some .lt then d else b) else (if Float64.cmp d a == some .lt then d else a)
end
end Mine
end PartC6
section PartC7
open PySem PySem.W PyProof.Rows
set_option linter.unusedVariables false
set_option maxRecDepth 100000
namespace Mine
/- the program's defs -/
noncomputable def fnStmt (i : Nat) : Stmt := PySem.Challenge.pw_qu0033_01.main.body.getD i default
noncomputable def bodyOf : Stmt → List Stmt | .FunctionDef _ _ b _ _ _ _ _ _ _ => b | _ => []
noncomputable def scopeOf : Stmt → Scope | .FunctionDef _ _ _ _ _ _ sc _ _ _ => sc | _ => default
noncomputable def isLoc (sc : Scope) (x : Str) : Bool := sc.names.lookup x == some .local && !(x == ("__debug__" : Str))
noncomputable def isGlo (sc : Scope) (x : Str) : Bool := sc.names.lookup x == some .globalImplicit && !(x == ("__debug__" : Str))

structure FE (env : Env) (c : Cx) (sc : Scope) : Prop where
  L : env.locals = c.L
  s : env.scope = sc
  k : sc.kind = .function
  g : env.globals = mainGlobals
  b : env.builtins = builtinsNs
theorem FE.ext {env : Env} {c c' : Cx} {sc : Scope} (E : FE env c sc) (x : Ext c c') : FE env c' sc := ⟨E.L.trans x.L.symm, E.s, E.k, E.g, E.b⟩

section
variable {prog : Program} {w : World} {c : Cx} {env : Env} {sc : Scope} {m : LM} {N : NM} {Pn Pb Pc : LM → NM → Prop} {Pr : V → LM → NM → Prop} {P : V → LM → NM → Prop}
theorem isLoc_k {x : Str} (E : FE env c sc) (h : isLoc sc x = true) : env.kindOf x = some .local := by
  unfold isLoc at h
  rw [Bool.and_eq_true] at h
  show env.scope.names.lookup x = _
  rw [E.s]; exact beq_iff_eq.mp h.1
theorem isLoc_d {sc : Scope} {x : Str} (h : isLoc sc x = true) : (x == ("__debug__" : Str)) = false := by
  unfold isLoc at h
  rw [Bool.and_eq_true] at h
  simpa using h.2
theorem isGlo_k {x : Str} (E : FE env c sc) (h : isGlo sc x = true) : env.kindOf x = some .globalImplicit := by
  unfold isGlo at h
  rw [Bool.and_eq_true] at h
  show env.scope.names.lookup x = _
  rw [E.s]; exact beq_iff_eq.mp h.1
theorem isGlo_d {sc : Scope} {x : Str} (h : isGlo sc x = true) : (x == ("__debug__" : Str)) = false := by
  unfold isGlo at h
  rw [Bool.and_eq_true] at h
  simpa using h.2
theorem FE.kind (E : FE env c sc) : env.scope.kind = .function := by rw [E.s]; exact E.k
theorem Ev.nm {x : Str} {pos : Pos} {d : V} (E : FE env c sc) (hx : isLoc sc x = true) (hd : m x = some d) (h : P d m N) : Ev prog w c env (.Name x pos) m N P :=
  Ev.name E.L E.kind (isLoc_k E hx) hd h (isLoc_d hx)
theorem Sn.nm {x : Str} {d : V} {P : LM → NM → Prop} (E : FE env c sc) (hx : isLoc sc x = true) (h : P (m.put x d) N) : Sn prog w c env x d m N P := Sn.local E.L E.kind (isLoc_k E hx) h
theorem Ev.gl {x : Str} {pos : Pos} {v : Value} {d : V} (E : FE env c sc) (hB : Bs w c.B) (hx : isGlo sc x = true) (e : nsIn (hd.heap_39 w.params) mainGlobals x = some (some v)) (hd : ∀ τ, d.is τ v) (h : P d m N) : Ev prog w c env (.Name x pos) m N P :=
  Ev.glob hB E.kind E.g (isGlo_k E hx) e hd h (isGlo_d hx)
theorem Ev.bi {x : Str} {pos : Pos} {v : Value} {d : V} (E : FE env c sc) (hB : Bs w c.B) (hx : isGlo sc x = true) (e : nsIn (hd.heap_39 w.params) mainGlobals x = some Option.none) (hv : bootBuiltins x = some v) (hd : ∀ τ, d.is τ v) (h : P d m N)
    (hn : x ≠ "__name__" := by decide) : Ev prog w c env (.Name x pos) m N P :=
  Ev.builtin hB E.kind E.g E.b (isGlo_k E hx) e hv hn hd h (isGlo_d hx)
end

theorem clb_bi {w : World} {c : Cx} {id : String} : Clb w c (.bi id) := trivial
theorem clb_ty {w : World} {c : Cx} {id : String} : Clb w c (.ty id) := trivial
/- the addresses of the defs -/
noncomputable def fdOf (w : World) (a : Addr) : FuncData := match (hd.heap_39 w.params).lookup a with
  | some ⟨_, _, .func fd, _⟩ => fd
  | _ => default
/- what a contract's caller has -/
structure Fit (w : World) (c : Cx) (k : Nat) : Prop where
  B : Bs w c.B
  h : c.A.handled = none
  d : c.A.depth + k < recursionLimit
  u : c.A.units + 4 * k < cLine
theorem Fit.ext {w : World} {c c' : Cx} {k : Nat} (F : Fit w c k) (x : Ext c c') : Fit w c' k := ⟨F.B.mono x.B, by rw [x.A]; exact F.h, by rw [x.A]; exact F.d, by rw [x.A]; exact F.u⟩
theorem Fit.le {w : World} {c : Cx} {k j : Nat} (F : Fit w c k) (h : j ≤ k) : Fit w c j := ⟨F.B, F.h, by have := F.d; omega, by have := F.u; omega⟩

section
variable {prog : Program} {w : World} {c : Cx} {env : Env} {sc : Scope} {m : LM} {N : NM} {Pn Pb Pc : LM → NM → Prop} {Pr : V → LM → NM → Prop} {P : V → LM → NM → Prop}
theorem Ev.g_heappush {pos : Pos} (E : FE env c sc) (hB : Bs w c.B) (hx : isGlo sc (Str.ofString "heappush") = true) (h : P (.ref 21) m N) : Ev prog w c env (.Name (Str.ofString "heappush") pos) m N P := Ev.gl E hB hx (v := .ref 21) (d := .ref 21) rfl (fun _ => rfl) h
theorem Ev.g_heappop {pos : Pos} (E : FE env c sc) (hB : Bs w c.B) (hx : isGlo sc (Str.ofString "heappop") = true) (h : P (.ref 28) m N) : Ev prog w c env (.Name (Str.ofString "heappop") pos) m N P := Ev.gl E hB hx (v := .ref 28) (d := .ref 28) rfl (fun _ => rfl) h
theorem Ev.g_siftdown {pos : Pos} (E : FE env c sc) (hB : Bs w c.B) (hx : isGlo sc (Str.ofString "_siftdown") = true) (h : P (.ref 35) m N) : Ev prog w c env (.Name (Str.ofString "_siftdown") pos) m N P := Ev.gl E hB hx (v := .ref 35) (d := .ref 35) rfl (fun _ => rfl) h
theorem Ev.g_siftup {pos : Pos} (E : FE env c sc) (hB : Bs w c.B) (hx : isGlo sc (Str.ofString "_siftup") = true) (h : P (.ref 42) m N) : Ev prog w c env (.Name (Str.ofString "_siftup") pos) m N P := Ev.gl E hB hx (v := .ref 42) (d := .ref 42) rfl (fun _ => rfl) h
theorem Ev.g_rgb_to_hls {pos : Pos} (E : FE env c sc) (hB : Bs w c.B) (hx : isGlo sc (Str.ofString "rgb_to_hls") = true) (h : P (.ref 49) m N) : Ev prog w c env (.Name (Str.ofString "rgb_to_hls") pos) m N P := Ev.gl E hB hx (v := .ref 49) (d := .ref 49) rfl (fun _ => rfl) h
theorem Ev.g_hsv_to_rgb {pos : Pos} (E : FE env c sc) (hB : Bs w c.B) (hx : isGlo sc (Str.ofString "hsv_to_rgb") = true) (h : P (.ref 56) m N) : Ev prog w c env (.Name (Str.ofString "hsv_to_rgb") pos) m N P := Ev.gl E hB hx (v := .ref 56) (d := .ref 56) rfl (fun _ => rfl) h
theorem Ev.g_substitution_cost {pos : Pos} (E : FE env c sc) (hB : Bs w c.B) (hx : isGlo sc (Str.ofString "_substitution_cost") = true) (h : P (.ref 63) m N) : Ev prog w c env (.Name (Str.ofString "_substitution_cost") pos) m N P := Ev.gl E hB hx (v := .ref 63) (d := .ref 63) rfl (fun _ => rfl) h
theorem Ev.g_levenshtein_distance {pos : Pos} (E : FE env c sc) (hB : Bs w c.B) (hx : isGlo sc (Str.ofString "_levenshtein_distance") = true) (h : P (.ref 70) m N) : Ev prog w c env (.Name (Str.ofString "_levenshtein_distance") pos) m N P := Ev.gl E hB hx (v := .ref 70) (d := .ref 70) rfl (fun _ => rfl) h
theorem Ev.g_MAX_STRING_SIZE {pos : Pos} (E : FE env c sc) (hB : Bs w c.B) (hx : isGlo sc (Str.ofString "_MAX_STRING_SIZE") = true) (h : P (.int 40) m N) : Ev prog w c env (.Name (Str.ofString "_MAX_STRING_SIZE") pos) m N P := Ev.gl E hB hx (v := .int 40 _) (d := .int 40) rfl (fun _ => ⟨_, rfl⟩) h
theorem Ev.g_MOVE_COST {pos : Pos} (E : FE env c sc) (hB : Bs w c.B) (hx : isGlo sc (Str.ofString "_MOVE_COST") = true) (h : P (.int 2) m N) : Ev prog w c env (.Name (Str.ofString "_MOVE_COST") pos) m N P := Ev.gl E hB hx (v := .int 2 _) (d := .int 2) rfl (fun _ => ⟨_, rfl⟩) h
theorem Ev.g_CASE_COST {pos : Pos} (E : FE env c sc) (hB : Bs w c.B) (hx : isGlo sc (Str.ofString "_CASE_COST") = true) (h : P (.int 1) m N) : Ev prog w c env (.Name (Str.ofString "_CASE_COST") pos) m N P := Ev.gl E hB hx (v := .int 1 _) (d := .int 1) rfl (fun _ => ⟨_, rfl⟩) h
theorem boot_len' : bootBuiltins (Str.ofString "len") = some (.builtin "len") := by first | exact PySem.boot_len | exact PyProof.Rows.boot_len | exact boot_len | decide +kernel
theorem Ev.b_len {pos : Pos} (E : FE env c sc) (hB : Bs w c.B) (hx : isGlo sc (Str.ofString "len") = true) (h : P (.bi "len") m N) : Ev prog w c env (.Name (Str.ofString "len") pos) m N P := Ev.bi E hB hx (d := .bi "len") rfl boot_len' (fun _ => rfl) h
theorem boot_min' : bootBuiltins (Str.ofString "min") = some (.builtin "min") := by first | exact PySem.boot_min | exact PyProof.Rows.boot_min | exact boot_min | decide +kernel
theorem Ev.b_min {pos : Pos} (E : FE env c sc) (hB : Bs w c.B) (hx : isGlo sc (Str.ofString "min") = true) (h : P (.bi "min") m N) : Ev prog w c env (.Name (Str.ofString "min") pos) m N P := Ev.bi E hB hx (d := .bi "min") rfl boot_min' (fun _ => rfl) h
theorem boot_max' : bootBuiltins (Str.ofString "max") = some (.builtin "max") := by first | exact PySem.boot_max | exact PyProof.Rows.boot_max | exact boot_max | decide +kernel
theorem Ev.b_max {pos : Pos} (E : FE env c sc) (hB : Bs w c.B) (hx : isGlo sc (Str.ofString "max") = true) (h : P (.bi "max") m N) : Ev prog w c env (.Name (Str.ofString "max") pos) m N P := Ev.bi E hB hx (d := .bi "max") rfl boot_max' (fun _ => rfl) h
theorem boot_sum' : bootBuiltins (Str.ofString "sum") = some (.builtin "sum") := by first | exact PySem.boot_sum | exact PyProof.Rows.boot_sum | exact boot_sum | decide +kernel
theorem Ev.b_sum {pos : Pos} (E : FE env c sc) (hB : Bs w c.B) (hx : isGlo sc (Str.ofString "sum") = true) (h : P (.bi "sum") m N) : Ev prog w c env (.Name (Str.ofString "sum") pos) m N P := Ev.bi E hB hx (d := .bi "sum") rfl boot_sum' (fun _ => rfl) h
theorem boot_abs' : bootBuiltins (Str.ofString "abs") = some (.builtin "abs") := by first | exact PySem.boot_abs | exact PyProof.Rows.boot_abs | exact boot_abs | decide +kernel
theorem Ev.b_abs {pos : Pos} (E : FE env c sc) (hB : Bs w c.B) (hx : isGlo sc (Str.ofString "abs") = true) (h : P (.bi "abs") m N) : Ev prog w c env (.Name (Str.ofString "abs") pos) m N P := Ev.bi E hB hx (d := .bi "abs") rfl boot_abs' (fun _ => rfl) h
theorem boot_sorted' : bootBuiltins (Str.ofString "sorted") = some (.builtin "sorted") := by first | exact PySem.boot_sorted | exact PyProof.Rows.boot_sorted | exact boot_sorted | decide +kernel
theorem Ev.b_sorted {pos : Pos} (E : FE env c sc) (hB : Bs w c.B) (hx : isGlo sc (Str.ofString "sorted") = true) (h : P (.bi "sorted") m N) : Ev prog w c env (.Name (Str.ofString "sorted") pos) m N P := Ev.bi E hB hx (d := .bi "sorted") rfl boot_sorted' (fun _ => rfl) h
theorem boot_range' : bootBuiltins (Str.ofString "range") = some (.type "range") := by first | exact PySem.boot_range | exact PyProof.Rows.boot_range | exact boot_range | decide +kernel
theorem Ev.b_range {pos : Pos} (E : FE env c sc) (hB : Bs w c.B) (hx : isGlo sc (Str.ofString "range") = true) (h : P (.ty "range") m N) : Ev prog w c env (.Name (Str.ofString "range") pos) m N P := Ev.bi E hB hx (d := .ty "range") rfl boot_range' (fun _ => rfl) h
theorem boot_int' : bootBuiltins (Str.ofString "int") = some (.type "int") := by first | exact PySem.boot_int | exact PyProof.Rows.boot_int | exact boot_int | decide +kernel
theorem Ev.b_int {pos : Pos} (E : FE env c sc) (hB : Bs w c.B) (hx : isGlo sc (Str.ofString "int") = true) (h : P (.ty "int") m N) : Ev prog w c env (.Name (Str.ofString "int") pos) m N P := Ev.bi E hB hx (d := .ty "int") rfl boot_int' (fun _ => rfl) h
theorem boot_list' : bootBuiltins (Str.ofString "list") = some (.type "list") := by first | exact PySem.boot_list | exact PyProof.Rows.boot_list | exact boot_list | decide +kernel
theorem Ev.b_list {pos : Pos} (E : FE env c sc) (hB : Bs w c.B) (hx : isGlo sc (Str.ofString "list") = true) (h : P (.ty "list") m N) : Ev prog w c env (.Name (Str.ofString "list") pos) m N P := Ev.bi E hB hx (d := .ty "list") rfl boot_list' (fun _ => rfl) h
theorem boot_zip' : bootBuiltins (Str.ofString "zip") = some (.type "zip") := by first | exact PySem.boot_zip | exact PyProof.Rows.boot_zip | exact boot_zip | decide +kernel
end
theorem fn_heappush (w : World) : (hd.heap_39 w.params).lookup 21 = some ⟨.type "function", none, .func (fdOf w 21), #[]⟩ := by kernel_rfl
theorem cd_heappush (w : World) : codeIn (hd.heap_39 w.params) (fdOf w 21).code (fdOf w 21).qualname = true := by kernel_rfl
theorem sc_heappush (w : World) : (fdOf w 21).scope = scopeOf (fnStmt 1) := by kernel_rfl
theorem bd_heappush (w : World) : (fdOf w 21).body = .stmts (bodyOf (fnStmt 1)) := by kernel_rfl
theorem ba_heappush (w : World) (v0 v1 : Value) : bindArgs (fdOf w 21) ⟨[v0, v1], []⟩ = pure [(Str.ofString "heap", v0), (Str.ofString "item", v1)] := by kernel_rfl
theorem fn_heappop (w : World) : (hd.heap_39 w.params).lookup 28 = some ⟨.type "function", none, .func (fdOf w 28), #[]⟩ := by kernel_rfl
theorem cd_heappop (w : World) : codeIn (hd.heap_39 w.params) (fdOf w 28).code (fdOf w 28).qualname = true := by kernel_rfl
theorem sc_heappop (w : World) : (fdOf w 28).scope = scopeOf (fnStmt 2) := by kernel_rfl
theorem bd_heappop (w : World) : (fdOf w 28).body = .stmts (bodyOf (fnStmt 2)) := by kernel_rfl
theorem ba_heappop (w : World) (v0 : Value) : bindArgs (fdOf w 28) ⟨[v0], []⟩ = pure [(Str.ofString "heap", v0)] := by kernel_rfl
theorem fn_siftdown (w : World) : (hd.heap_39 w.params).lookup 35 = some ⟨.type "function", none, .func (fdOf w 35), #[]⟩ := by kernel_rfl
theorem cd_siftdown (w : World) : codeIn (hd.heap_39 w.params) (fdOf w 35).code (fdOf w 35).qualname = true := by kernel_rfl
theorem sc_siftdown (w : World) : (fdOf w 35).scope = scopeOf (fnStmt 3) := by kernel_rfl
theorem bd_siftdown (w : World) : (fdOf w 35).body = .stmts (bodyOf (fnStmt 3)) := by kernel_rfl
theorem ba_siftdown (w : World) (v0 v1 v2 : Value) : bindArgs (fdOf w 35) ⟨[v0, v1, v2], []⟩ = pure [(Str.ofString "heap", v0), (Str.ofString "startpos", v1), (Str.ofString "pos", v2)] := by kernel_rfl
theorem fn_siftup (w : World) : (hd.heap_39 w.params).lookup 42 = some ⟨.type "function", none, .func (fdOf w 42), #[]⟩ := by kernel_rfl
theorem cd_siftup (w : World) : codeIn (hd.heap_39 w.params) (fdOf w 42).code (fdOf w 42).qualname = true := by kernel_rfl
theorem sc_siftup (w : World) : (fdOf w 42).scope = scopeOf (fnStmt 4) := by kernel_rfl
theorem bd_siftup (w : World) : (fdOf w 42).body = .stmts (bodyOf (fnStmt 4)) := by kernel_rfl
theorem ba_siftup (w : World) (v0 v1 : Value) : bindArgs (fdOf w 42) ⟨[v0, v1], []⟩ = pure [(Str.ofString "heap", v0), (Str.ofString "pos", v1)] := by kernel_rfl
theorem fn_rgb_to_hls (w : World) : (hd.heap_39 w.params).lookup 49 = some ⟨.type "function", none, .func (fdOf w 49), #[]⟩ := by kernel_rfl
theorem cd_rgb_to_hls (w : World) : codeIn (hd.heap_39 w.params) (fdOf w 49).code (fdOf w 49).qualname = true := by kernel_rfl
theorem sc_rgb_to_hls (w : World) : (fdOf w 49).scope = scopeOf (fnStmt 6) := by kernel_rfl
theorem bd_rgb_to_hls (w : World) : (fdOf w 49).body = .stmts (bodyOf (fnStmt 6)) := by kernel_rfl
theorem ba_rgb_to_hls (w : World) (v0 v1 v2 : Value) : bindArgs (fdOf w 49) ⟨[v0, v1, v2], []⟩ = pure [(Str.ofString "r", v0), (Str.ofString "g", v1), (Str.ofString "b", v2)] := by kernel_rfl
theorem fn_hsv_to_rgb (w : World) : (hd.heap_39 w.params).lookup 56 = some ⟨.type "function", none, .func (fdOf w 56), #[]⟩ := by kernel_rfl
theorem cd_hsv_to_rgb (w : World) : codeIn (hd.heap_39 w.params) (fdOf w 56).code (fdOf w 56).qualname = true := by kernel_rfl
theorem sc_hsv_to_rgb (w : World) : (fdOf w 56).scope = scopeOf (fnStmt 7) := by kernel_rfl
theorem bd_hsv_to_rgb (w : World) : (fdOf w 56).body = .stmts (bodyOf (fnStmt 7)) := by kernel_rfl
theorem ba_hsv_to_rgb (w : World) (v0 v1 v2 : Value) : bindArgs (fdOf w 56) ⟨[v0, v1, v2], []⟩ = pure [(Str.ofString "h", v0), (Str.ofString "s", v1), (Str.ofString "v", v2)] := by kernel_rfl
theorem fn_substitution_cost (w : World) : (hd.heap_39 w.params).lookup 63 = some ⟨.type "function", none, .func (fdOf w 63), #[]⟩ := by kernel_rfl
theorem cd_substitution_cost (w : World) : codeIn (hd.heap_39 w.params) (fdOf w 63).code (fdOf w 63).qualname = true := by kernel_rfl
theorem sc_substitution_cost (w : World) : (fdOf w 63).scope = scopeOf (fnStmt 12) := by kernel_rfl
theorem bd_substitution_cost (w : World) : (fdOf w 63).body = .stmts (bodyOf (fnStmt 12)) := by kernel_rfl
theorem ba_substitution_cost (w : World) (v0 v1 : Value) : bindArgs (fdOf w 63) ⟨[v0, v1], []⟩ = pure [(Str.ofString "ch_a", v0), (Str.ofString "ch_b", v1)] := by kernel_rfl
theorem fn_levenshtein_distance (w : World) : (hd.heap_39 w.params).lookup 70 = some ⟨.type "function", none, .func (fdOf w 70), #[]⟩ := by kernel_rfl
theorem cd_levenshtein_distance (w : World) : codeIn (hd.heap_39 w.params) (fdOf w 70).code (fdOf w 70).qualname = true := by kernel_rfl
theorem sc_levenshtein_distance (w : World) : (fdOf w 70).scope = scopeOf (fnStmt 13) := by kernel_rfl
theorem bd_levenshtein_distance (w : World) : (fdOf w 70).body = .stmts (bodyOf (fnStmt 13)) := by kernel_rfl
theorem ba_levenshtein_distance (w : World) (v0 v1 v2 : Value) : bindArgs (fdOf w 70) ⟨[v0, v1, v2], []⟩ = pure [(Str.ofString "a", v0), (Str.ofString "b", v1), (Str.ofString "max_cost", v2)] := by kernel_rfl
theorem callEnv_FE (w : World) {c : Cx} {L f : Addr} {sc : Scope} (h : (fdOf w f).scope = sc) (hk : sc.kind = .function) (hL : L = c.L) (hg : (fdOf w f).globals = mainGlobals) (hb : (fdOf w f).builtins = builtinsNs) : FE (callEnv (fdOf w f) L f) c sc := ⟨hL, h, hk, hg, hb⟩
end Mine
end PartC7
section PartC8
open PySem PySem.W PyProof.Rows
set_option linter.unusedVariables false
namespace Mine
section
variable {prog : Program} {w : World} {c : Cx} {env : Env} {m : LM} {N : NM} {P : V → LM → NM → Prop}
theorem cmpOf_floats_gt {τ : TM} {A : Around} {us : List UInt64} {vs : List Value} (hv : VS τ (us.map .flt) vs) : CmpOf prog w A .Gt (fun i v => vs.toArray[i]? = some v) (fun i j => Float64.cmp (us.getD i 0) (us.getD j 0) == some .gt) := fun i j vi vj s Q E hi hj h => by
  obtain ⟨d, h1, h2⟩ := hv.get' (i := i) (v := vi) (by simpa using hi)
  obtain ⟨e, h3, h4⟩ := hv.get' (i := j) (v := vj) (by simpa using hj)
  rw [List.getElem?_map] at h1 h3
  cases q1 : us[i]? with
  | none => rw [q1] at h1; cases h1
  | some a => cases q2 : us[j]? with
    | none => rw [q2] at h3; cases h3
    | some b =>
      rw [q1] at h1; rw [q2] at h3
      cases h1; cases h3
      obtain ⟨t, rfl, _⟩ := h2
      obtain ⟨u, rfl, _⟩ := h4
      have e1 : us.getD i 0 = a := by simp [List.getD, q1]
      have e2 : us.getD j 0 = b := by simp [List.getD, q2]
      dsimp only at h
      rw [e1, e2] at h
      exact AutoFloatOps.gt_0 h
theorem cmpOf_floats_lt {τ : TM} {A : Around} {us : List UInt64} {vs : List Value} (hv : VS τ (us.map .flt) vs) : CmpOf prog w A .Lt (fun i v => vs.toArray[i]? = some v) (fun i j => Float64.cmp (us.getD i 0) (us.getD j 0) == some .lt) := fun i j vi vj s Q E hi hj h => by
  obtain ⟨d, h1, h2⟩ := hv.get' (i := i) (v := vi) (by simpa using hi)
  obtain ⟨e, h3, h4⟩ := hv.get' (i := j) (v := vj) (by simpa using hj)
  rw [List.getElem?_map] at h1 h3
  cases q1 : us[i]? with
  | none => rw [q1] at h1; cases h1
  | some a => cases q2 : us[j]? with
    | none => rw [q2] at h3; cases h3
    | some b =>
      rw [q1] at h1; rw [q2] at h3
      cases h1; cases h3
      obtain ⟨t, rfl, _⟩ := h2
      obtain ⟨u, rfl, _⟩ := h4
      have e1 : us.getD i 0 = a := by simp [List.getD, q1]
      have e2 : us.getD j 0 = b := by simp [List.getD, q2]
      dsimp only at h
      rw [e1, e2] at h
      exact AutoFloatOps.lt_0 h
theorem arg3 (us : UInt64 → UInt64 → Bool) (x y z : UInt64) : [x, y, z].getD (argBest (fun i j => us ([x, y, z].getD i 0) ([x, y, z].getD j 0)) 2) 0 = if us y x then (if us z y then z else y) else (if us z x then z else x) := by
  simp only [argBest]
  by_cases h1 : us y x = true
  · by_cases h2 : us z y = true <;> simp [h1, h2]
  · by_cases h2 : us z x = true <;> simp [h1, h2]
theorem Ca.maxF {x y z : UInt64} (hh : c.A.handled = none) (h : P (.flt (maxF3 x y z)) m N) : Ca prog w c (.bi "max") [.flt x, .flt y, .flt z] m N P := by
  rintro τ _ _ rfl hvs
  refine Ta.mk' fun H tk S => ?_
  have hv : VS τ ([x, y, z].map V.flt) _ := hvs
  obtain ⟨v1, v2, v3, rfl, h1, h2, h3⟩ := hvs.three
  have hT : (H.push { cls := .type "tuple", data := .seq #[v1, v2, v3] }).IsTuple H.objs.size [v1, v2, v3].toArray := ⟨_, Heap.get?_push_size _ rfl, rfl, 0, rfl⟩
  have hsz : (H.push { cls := .type "tuple", data := .seq #[v1, v2, v3] }).objs.size = H.objs.size + 1 := Heap.size_push ..
  refine call_max_three (s := c.s H tk) (wpAny_pyIter_tuple (s := ⟨H.push { cls := .type "tuple", data := .seq #[v1, v2, v3] }, c.gens, c.drawn, tk, c.os⟩) hT ?_)
  refine ⟨_, [_, H.objs.size], [_], _, _, _, _, rfl, Walks.tuple (A := c.A.in1) hh _ H.objs.size (by rw [hsz]; exact Nat.ne_of_lt (Nat.lt_succ_self _)) [v1, v2, v3].toArray, ⟨⟨_, Heap.get?_push_size _ rfl, rfl, rfl⟩, hT.push _⟩, fun d hd => ?_, by simp, cmpOf_floats_gt hv, fun v h' tk' hP hk hle => ?_⟩
  · show d < ((H.push _).push _).objs.size
    rw [Heap.size_push, hsz]
    simp only [List.mem_cons, List.not_mem_nil, or_false] at hd
    rcases hd with rfl | rfl
    · rw [hsz]; exact Nat.lt_succ_self _
    · exact Nat.lt_succ_of_lt (Nat.lt_succ_self _)
  · have hold : ∀ d o, H.get? d = some o → h'.get? d = some o := fun d o e => by
      refine hk d o (fun hm => ?_) (Heap.get?_push_of_some _ (Heap.get?_push_of_some _ e))
      have := Heap.lt_size e
      simp only [List.mem_cons, List.not_mem_nil, or_false] at hm
      rw [hm, hsz] at this
      exact absurd this (Nat.not_lt.mpr (Nat.le_succ _))
    refine ⟨τ, h', tk', m, N, rfl, .refl τ, (S.grow hold).later hle, .flt (maxF3 x y z), ?_, h⟩
    have hP' : [v1, v2, v3][argBest (fun i j => Float64.cmp ([x, y, z].getD i 0) ([x, y, z].getD j 0) == some .gt) 2]? = some v := by
      have := hP
      rw [show [v1, v2, v3].toArray.size - 1 = 2 from rfl, List.getElem?_toArray] at this
      exact this
    obtain ⟨d, hd1, hd2⟩ := hv.get' hP'
    rw [List.getElem?_map] at hd1
    have e := arg3 (fun a b => Float64.cmp a b == some .gt) x y z
    rw [List.getD_eq_getElem?_getD] at e
    cases q : [x, y, z][argBest (fun i j => Float64.cmp ([x, y, z].getD i 0) ([x, y, z].getD j 0) == some .gt) 2]? with
    | none => rw [q] at hd1; cases hd1
    | some u =>
      rw [q] at hd1 e
      cases hd1
      simp only [Option.getD_some] at e
      rw [e] at hd2
      exact hd2
theorem Ca.minF {x y z : UInt64} (hh : c.A.handled = none) (h : P (.flt (minF3 x y z)) m N) : Ca prog w c (.bi "min") [.flt x, .flt y, .flt z] m N P := by
  rintro τ _ _ rfl hvs
  refine Ta.mk' fun H tk S => ?_
  have hv : VS τ ([x, y, z].map V.flt) _ := hvs
  obtain ⟨v1, v2, v3, rfl, h1, h2, h3⟩ := hvs.three
  have hT : (H.push { cls := .type "tuple", data := .seq #[v1, v2, v3] }).IsTuple H.objs.size [v1, v2, v3].toArray := ⟨_, Heap.get?_push_size _ rfl, rfl, 0, rfl⟩
  have hsz : (H.push { cls := .type "tuple", data := .seq #[v1, v2, v3] }).objs.size = H.objs.size + 1 := Heap.size_push ..
  refine call_min_three (s := c.s H tk) (wpAny_pyIter_tuple (s := ⟨H.push { cls := .type "tuple", data := .seq #[v1, v2, v3] }, c.gens, c.drawn, tk, c.os⟩) hT ?_)
  refine ⟨_, [_, H.objs.size], [_], _, _, _, _, rfl, Walks.tuple (A := c.A.in1) hh _ H.objs.size (by rw [hsz]; exact Nat.ne_of_lt (Nat.lt_succ_self _)) [v1, v2, v3].toArray, ⟨⟨_, Heap.get?_push_size _ rfl, rfl, rfl⟩, hT.push _⟩, fun d hd => ?_, by simp, cmpOf_floats_lt hv, fun v h' tk' hP hk hle => ?_⟩
  · show d < ((H.push _).push _).objs.size
    rw [Heap.size_push, hsz]
    simp only [List.mem_cons, List.not_mem_nil, or_false] at hd
    rcases hd with rfl | rfl
    · rw [hsz]; exact Nat.lt_succ_self _
    · exact Nat.lt_succ_of_lt (Nat.lt_succ_self _)
  · have hold : ∀ d o, H.get? d = some o → h'.get? d = some o := fun d o e => by
      refine hk d o (fun hm => ?_) (Heap.get?_push_of_some _ (Heap.get?_push_of_some _ e))
      have := Heap.lt_size e
      simp only [List.mem_cons, List.not_mem_nil, or_false] at hm
      rw [hm, hsz] at this
      exact absurd this (Nat.not_lt.mpr (Nat.le_succ _))
    refine ⟨τ, h', tk', m, N, rfl, .refl τ, (S.grow hold).later hle, .flt (minF3 x y z), ?_, h⟩
    have hP' : [v1, v2, v3][argBest (fun i j => Float64.cmp ([x, y, z].getD i 0) ([x, y, z].getD j 0) == some .lt) 2]? = some v := by
      have := hP
      rw [show [v1, v2, v3].toArray.size - 1 = 2 from rfl, List.getElem?_toArray] at this
      exact this
    obtain ⟨d, hd1, hd2⟩ := hv.get' hP'
    rw [List.getElem?_map] at hd1
    have e := arg3 (fun a b => Float64.cmp a b == some .lt) x y z
    rw [List.getD_eq_getElem?_getD] at e
    cases q : [x, y, z][argBest (fun i j => Float64.cmp ([x, y, z].getD i 0) ([x, y, z].getD j 0) == some .lt) 2]? with
    | none => rw [q] at hd1; cases hd1
    | some u =>
      rw [q] at hd1 e
      cases hd1
      simp only [Option.getD_some] at e
      rw [e] at hd2
      exact hd2
end
end Mine
end PartC8
section PartD1
open PySem PySem.W PyProof.Rows
set_option linter.unusedVariables false
namespace Mine
section
open PySem.SeqAt
open AutoSeq1 (wpAny_loadPart')
open MeetsSeq MeetsSeq2 MeetsSeq3 SeqRoads2

noncomputable def LtAt (A : Around) (s : Shared) (y x : Value) (b : Bool) : Prop :=
  ∀ (prog : Program) (w : World) (E : Value → Shared → Prop) (Q : Value → Shared → Prop), Q (.bool b) s → wpAny (model prog w) A (richCompare .Lt y x) Q E s
noncomputable def lexAt (e l : Nat → Bool) : Nat → Nat → Bool
  | 0, _ => false
  | k + 1, i => if e i then lexAt e l k (i + 1) else l i

theorem lexAt_0 (e l : Nat → Bool) (i : Nat) : lexAt e l 0 i = false := rfl
theorem lexAt_1 (e l : Nat → Bool) (k i : Nat) : lexAt e l (k + 1) i = if e i then lexAt e l k (i + 1) else l i := rfl
theorem lt_loopAt (a b : Addr) (items items2 : Array Value) (n n2 : Nat) (dd dd2 : Option Addr) (sl sl2 : Array (Option Value)) (hsz : items.size = items2.size) (e l : Nat → Bool) (k : Nat) :
    ∀ i : Nat, items.size - i = k → (∀ j, j < i → e j = true) → Meets (Builtin.«list.__eq__.loop» ⟨[.ref a, .ref b, rawInt i, rawInt 0], []⟩)
      (fun A R s => s.heap.get? a = some { cls := .type "list", dict := dd, data := .seq items n, slots := sl } ∧ s.heap.get? b = some { cls := .type "list", dict := dd2, data := .seq items2 n2, slots := sl2 } ∧
        (∀ j (h1 : j < items.size) (h2 : j < items2.size), (∀ q, q < j → e q = true) → EqAt A.in1 s items[j] items2[j] (e j)) ∧
        (∀ j (h1 : j < items.size) (h2 : j < items2.size), (∀ q, q < j → e q = true) → e j = false → LtAt A.in1 s items[j] items2[j] (l j)) ∧
        R (.ok (.ret (.bool (lexAt e l k i)))) s) := by
  induction k with
  | zero =>
    intro i hk hp prog w A R s h
    obtain ⟨hh, g, d, tk, os⟩ := s; obtain ⟨hl, hb, he, hlt, h⟩ := h
    wp_walk using wpAny_loadPart' hl, wpAny_loadPart' hb
    have hi1 : items[((i : Nat) : Int).toNat]? = none := by simp; lia
    have hi2 : items2[((i : Nat) : Int).toNat]? = none := by simp; lia
    rw [hi1, hi2]
    wp_walk using wpAny_loadPart' hl, wpAny_loadPart' hb
    show R (.ok (.ret (.bool (decide (items.size < items2.size))))) _
    rw [hsz]
    rw [decide_eq_false (Nat.lt_irrefl _)]; exact h
  | succ k ih =>
    intro i hk hp prog w A R s h
    obtain ⟨hh, g, d, tk, os⟩ := s; obtain ⟨hl, hb, he, hlt, h⟩ := h
    wp_walk using wpAny_loadPart' hl, wpAny_loadPart' hb
    have h1 : i < items.size := by lia
    have h2 : i < items2.size := by lia
    have hi1 : items[((i : Nat) : Int).toNat]? = some items[i] := by simp [h1]
    have hi2 : items2[((i : Nat) : Int).toNat]? = some items2[i] := by simp [h2]
    have hc : ((i : Int) + 1) = ((i + 1 : Nat) : Int) := by push_cast; rfl
    rw [hi1, hi2]
    refine wpAny_bind (he i h1 h2 hp prog w _ _ ?_)
    cases hb' : e i with
    | true =>
      rw [lexAt_1, hb', if_pos rfl] at h
      wp_walk
      rw [hc]
      exact ⟨plainId_quiet plain_eq_loop _, codeAny_builtin entry_eq_loop (by
        rw [Around.under_plainId plain_eq_loop _]
        exact ih (i + 1) (by lia) (fun j hj => by
          rcases Nat.lt_succ_iff_lt_or_eq.mp hj with q | q
          · exact hp j q
          · rw [q]; exact hb') prog w A R _ ⟨hl, hb, he, hlt, h⟩)⟩
    | false =>
      rw [lexAt_1, hb', if_neg Bool.false_ne_true] at h
      wp_walk using wpAny_loadPart' hl, wpAny_loadPart' hb
      rw [hi1, hi2]
      refine wpAny_bind (hlt i h1 h2 hp hb' prog w _ _ ?_)
      wp_walk
      exact h

theorem list_ltAt (a b : Addr) (items items2 : Array Value) (n n2 : Nat) (dd dd2 : Option Addr) (sl sl2 : Array (Option Value)) (hsz : items.size = items2.size) (e l : Nat → Bool) :
    Meets (Builtin.«list.__lt__» ⟨[.ref a, .ref b], []⟩)
      (fun A R s => s.heap.get? a = some { cls := .type "list", dict := dd, data := .seq items n, slots := sl } ∧ s.heap.get? b = some { cls := .type "list", dict := dd2, data := .seq items2 n2, slots := sl2 } ∧
        (∀ j (h1 : j < items.size) (h2 : j < items2.size), (∀ q, q < j → e q = true) → EqAt A.in1 s items[j] items2[j] (e j)) ∧
        (∀ j (h1 : j < items.size) (h2 : j < items2.size), (∀ q, q < j → e q = true) → e j = false → LtAt A.in1 s items[j] items2[j] (l j)) ∧
        R (.ok (.ret (.bool (lexAt e l items.size 0)))) s) := by
  intro prog w A R s h
  obtain ⟨hp, g, d, tk, os⟩ := s; obtain ⟨hl, hb, he, hlt, h⟩ := h
  have f3 := AutoSeq1.sub_list_list
  wp_walk using wpAny_loadPart' hl, wpAny_loadPart' hb
  exact ⟨plainId_quiet plain_eq_loop _, codeAny_builtin entry_eq_loop (by
    rw [Around.under_plainId plain_eq_loop _]
    exact lt_loopAt a b items items2 n n2 dd dd2 sl sl2 hsz e l _ 0 rfl (fun _ q => absurd q (Nat.not_lt_zero _)) prog w A R _ ⟨hl, hb, he, hlt, h⟩)⟩

theorem LtAt.lists {A : Around} {s : Shared} {l b : Addr} {items items2 : Array Value} {e lt : Nat → Bool} (hl : s.heap.IsList l items) (hb : s.heap.IsList b items2) (hsz : items.size = items2.size) (hu : A.units < cLine)
    (he : ∀ j (h1 : j < items.size) (h2 : j < items2.size), (∀ q, q < j → e q = true) → EqAt A.in1 s items[j] items2[j] (e j))
    (hlt : ∀ j (h1 : j < items.size) (h2 : j < items2.size), (∀ q, q < j → e q = true) → e j = false → LtAt A.in1 s items[j] items2[j] (lt j)) : LtAt A s (.ref l) (.ref b) (lexAt e lt items.size 0) := fun prog w E Q h => by
  obtain ⟨⟨cls, dd, data, sl⟩, ho, hc, n, hd⟩ := id hl
  obtain ⟨⟨cls2, dd2, data2, sl2⟩, ho2, hc2, n2, hd2⟩ := id hb
  simp only at hc hd hc2 hd2
  subst hc hd hc2 hd2
  exact richCompare_meets_room (op := .Lt) ⟨_, ho, rfl⟩ ⟨_, ho2, rfl⟩ F.slot_list_lt F.entry_list_lt (F.args_list_lt_2 _ _) (list_ltAt l b items items2 n n2 dd dd2 sl sl2 hsz e lt)
    ⟨ho, ho2, he, hlt, show Value.bool (lexAt e lt items.size 0) ≠ Value.notImplemented ∧ Q (.bool (lexAt e lt items.size 0)) s from ⟨(fun x => nomatch x), h⟩⟩ hu

theorem LtAt.ints {A : Around} {s : Shared} (a b : Int) (t u : Tok) : LtAt A s (.int a t) (.int b u) (decide (a < b)) := fun prog w E Q h => by
  have := lt_int (prog := prog) (w := w) (A := A) (E := E) (s := s) (a := a) (b := b) (t := t) (u := u) (Q := Q) h
  exact this
theorem LtAt.flts {A : Around} {s : Shared} (a b : UInt64) (t u : Tok) : LtAt A s (.float a t) (.float b u) (Float64.cmp a b == some .lt) := fun prog w E Q h => by
  have := AutoFloatOps.lt_0 (prog := prog) (w := w) (A := A) (E := E) (s := s) (a := a) (b := b) (t := t) (u := u) (Q := Q) h
  exact this
theorem EqAt.flts {A : Around} {s : Shared} (a b : UInt64) (t u : Tok) (h0 : t ≠ 0) (h1 : u ≠ 0) (htu : t = u → a = b) (hn : NoneBooked s.heap) (hr : (Float64.cmp a a == some .eq) = true) : EqAt A s (.float a t) (.float b u) (Float64.cmp a b == some .eq) := fun prog w E Q h => by
  unfold eqBool
  refine wpAny_holding ?_
  refine wpAny_ite_split (fun hab => ?_) (fun _ => ?_)
  · have e : a = b := by have := eq_of_beq hab; injection this
    subst e
    rw [hr] at h
    exact wpAny_bind (wpAny_rule (wpAny_pure h))
  have rest : wpAny (model prog w) A (truthOfDropped =<< richCompare .Eq (.float a t) (.float b u)) Q E s := by
    refine wpAny_bind ?_
    have := AutoFloatOps.eq_0 (prog := prog) (w := w) (A := A) (E := E) (s := s) (a := a) (b := b) (t := t) (u := u) (Q := fun v s => wpAny (model prog w) A (truthOfDropped v) Q E s) (wpAny_truthy_bool h)
    exact this
  have z : (t == 0 || u == 0) = false := by simp [h0, h1]
  show wpAny _ _ (do
    let same ← isSame.created (a == b && !Float64.isNaN a) t u
    if same = true then pure true else truthOfDropped (← richCompare .Eq (.float a t) (.float b u))) _ _ _
  refine wpAny_bind ?_
  have key : ∀ x : Bool, (x = true → a = b) → wpAny (model prog w) A (if x = true then pure true else truthOfDropped =<< richCompare .Eq (.float a t) (.float b u)) Q E s := fun x hx => by
    cases x with
    | true => rw [if_pos rfl]; have := hx rfl; subst this; rw [hr] at h; exact wpAny_pure h
    | false => rw [if_neg Bool.false_ne_true]; exact rest
  unfold isSame.created
  refine wpAny_ite ?_
  split
  · rename_i h; rw [z] at h; exact absurd h Bool.false_ne_true
  refine wpAny_ite ?_
  split
  · rename_i q
    exact wpAny_pure (key true fun _ => htu (eq_of_beq q))
  refine wpAny_ite ?_
  split
  · exact wpAny_pure (key false nofun)
  rename_i q
  have hab : a = b := by
    cases q' : (a == b) with
    | true => exact eq_of_beq q'
    | false => rw [q'] at q; simp at q
  refine wpAny_bind (wpAny_sharingNotTold_none hn ?_)
  first | rw [if_neg Bool.false_ne_true] | simp only [Bool.false_eq_true, if_false]
  refine wpAny_bind (wpAny_sharingNotTold_none hn ?_)
  first | rw [if_neg Bool.false_ne_true] | simp only [Bool.false_eq_true, if_false]
  exact wpAny_bind (wpAny_rule (wpAny_bind (wpAny_askSetting (wpAny_pure (key _ fun _ => hab)))))
end
end Mine
end PartD1
section PartD2
open PySem PySem.W PyProof.Rows
set_option linter.unusedVariables false
namespace Mine
section
open PySem.SeqAt
open AutoSeq1 (wpAny_loadPart')
open MeetsSeq MeetsSeq2 MeetsSeq3 SeqRoads2

theorem tuple_ltAt (l b : Addr) (items items2 : Array Value) (n n2 : Nat) (dd dd2 : Option Addr) (sl sl2 : Array (Option Value)) (hsz : items.size = items2.size) (e lt : Nat → Bool) :
    Meets (Builtin.«tuple.__lt__» ⟨[.ref l, .ref b], []⟩)
      (fun A R s => s.heap.get? l = some { cls := .type "tuple", dict := dd, data := .seq items n, slots := sl } ∧ s.heap.get? b = some { cls := .type "tuple", dict := dd2, data := .seq items2 n2, slots := sl2 } ∧
        (∀ j (h1 : j < items.size) (h2 : j < items2.size), (∀ q, q < j → e q = true) → EqAt A.in1 s items[j] items2[j] (e j)) ∧
        (∀ j (h1 : j < items.size) (h2 : j < items2.size), (∀ q, q < j → e q = true) → e j = false → LtAt A.in1 s items[j] items2[j] (lt j)) ∧
        R (.ok (.ret (.bool (lexAt e lt items.size 0)))) s) :=
  .of_wp fun prog w A R s h => by
    obtain ⟨hp, g, d, tk, os⟩ := s; obtain ⟨hl, hb, he, hlt, h⟩ := h
    have f2 := AutoSeq1.sub_tuple_tuple
    have hZ : (items.toList.zip items2.toList).length = items.size := by simp [hsz]
    wp_walk using wpAny_loadPart' hl, wpAny_loadPart' hb, wpAny_forIn_list _ (fun rest b s' => b.1 = none ∧ s' = ⟨hp, g, d, tk, os⟩ ∧ ∃ i, rest = (items.toList.zip items2.toList).drop i ∧ i ≤ items.size ∧ (∀ q, q < i → e q = true) ∧
      R (.ok (.ret (.bool (lexAt e lt (items.size - i) i)))) ⟨hp, g, d, tk, os⟩) _
    case turn =>
      rintro ⟨y, x⟩ rest b s' ⟨hb', rfl, i, hz, hi, hpr, hR⟩
      have hlt' : i < (items.toList.zip items2.toList).length := by
        rcases Nat.lt_or_ge i (items.toList.zip items2.toList).length with h' | h'
        · exact h'
        · rw [List.drop_of_length_le h'] at hz; cases hz
      have h1 : i < items.size := hZ ▸ hlt'
      have h2 : i < items2.size := hsz ▸ h1
      rw [List.drop_eq_getElem_cons hlt'] at hz
      injection hz with hyx hrest
      have hy : y = items[i] := by have := congrArg Prod.fst hyx; simpa using this
      have hx : x = items2[i] := by have := congrArg Prod.snd hyx; simpa using this
      subst hy hx
      obtain ⟨k, hk⟩ : ∃ k, items.size - i = k + 1 := ⟨items.size - i - 1, by lia⟩
      rw [hk, lexAt_1] at hR
      refine wpAny_bind (he i h1 h2 hpr prog w _ _ ?_)
      cases hy : e i with
      | true =>
        rw [hy, if_pos rfl] at hR
        wp_walk
        refine ⟨rfl, rfl, i + 1, hrest, h1, fun j hj => ?_, ?_⟩
        · rcases Nat.lt_succ_iff_lt_or_eq.mp hj with q | q
          · exact hpr j q
          · rw [q]; exact hy
        · rw [show items.size - (i + 1) = k by lia]; exact hR
      | false =>
        rw [hy, if_neg Bool.false_ne_true] at hR
        simp only [Bool.not_false, if_true]
        refine wpAny_bind (wpAny_rule ?_)
        refine wpAny_bind (hlt i h1 h2 hpr hy prog w _ _ ?_)
        wp_walk
        exact ⟨_, rfl, hR⟩
    case fin =>
      rintro ⟨b1, b2⟩ s' ⟨hb', rfl, i, hz, hi, hpr, hR⟩
      simp only at hb'
      subst hb'
      have hge : items.size ≤ i := by
        rcases Nat.lt_or_ge i (items.toList.zip items2.toList).length with h' | h'
        · rw [List.drop_eq_getElem_cons h'] at hz; cases hz
        · exact hZ ▸ h'
      rw [show items.size - i = 0 by lia, lexAt_0] at hR
      wp_walk
      refine ⟨_, rfl, ?_⟩
      rw [hsz]
      simpa [Builtin.Tuple.tupleCompareSizes] using hR
    case h =>
      exact ⟨rfl, rfl, 0, rfl, Nat.zero_le _, fun _ q => absurd q (Nat.not_lt_zero _), h⟩

theorem LtAt.tuples {A : Around} {s : Shared} {l b : Addr} {items items2 : Array Value} {e lt : Nat → Bool} (hl : IsTup s.heap l items) (hb : IsTup s.heap b items2) (hsz : items.size = items2.size) (hu : A.units < cLine)
    (he : ∀ j (h1 : j < items.size) (h2 : j < items2.size), (∀ q, q < j → e q = true) → EqAt A.in1 s items[j] items2[j] (e j))
    (hlt : ∀ j (h1 : j < items.size) (h2 : j < items2.size), (∀ q, q < j → e q = true) → e j = false → LtAt A.in1 s items[j] items2[j] (lt j)) : LtAt A s (.ref l) (.ref b) (lexAt e lt items.size 0) := fun prog w E Q h => by
  obtain ⟨⟨cls, dd, data, sl⟩, ho, hc, n, hd⟩ := id hl
  obtain ⟨⟨cls2, dd2, data2, sl2⟩, ho2, hc2, n2, hd2⟩ := id hb
  simp only at hc hd hc2 hd2
  subst hc hd hc2 hd2
  exact richCompare_meets_room (op := .Lt) ⟨_, ho, rfl⟩ ⟨_, ho2, rfl⟩ F.slot_tuple_lt F.entry_tuple_lt (F.args_tuple_lt_2 _ _) (tuple_ltAt l b items items2 n n2 dd dd2 sl sl2 hsz e lt)
    ⟨ho, ho2, he, hlt, show Value.bool (lexAt e lt items.size 0) ≠ Value.notImplemented ∧ Q (.bool (lexAt e lt items.size 0)) s from ⟨(fun x => nomatch x), h⟩⟩ hu

/- lists of like length, item by item like: != says no -/
theorem ne_loopAt (a b : Addr) (items items2 : Array Value) (n n2 : Nat) (dd dd2 : Option Addr) (sl sl2 : Array (Option Value)) (hsz : items.size = items2.size) (k : Nat) :
    ∀ i : Nat, items.size - i = k → Meets (Builtin.«list.__eq__.loop» ⟨[.ref a, .ref b, rawInt i, rawInt 3], []⟩)
      (fun A R s => s.heap.get? a = some { cls := .type "list", dict := dd, data := .seq items n, slots := sl } ∧ s.heap.get? b = some { cls := .type "list", dict := dd2, data := .seq items2 n2, slots := sl2 } ∧
        (∀ j (h1 : j < items.size) (h2 : j < items2.size), EqAt A.in1 s items[j] items2[j] true) ∧
        R (.ok (.ret (.bool false))) s) := by
  induction k with
  | zero =>
    intro i hk prog w A R s h
    obtain ⟨hh, g, d, tk, os⟩ := s; obtain ⟨hl, hb, he, h⟩ := h
    wp_walk using wpAny_loadPart' hl, wpAny_loadPart' hb
    have hi1 : items[((i : Nat) : Int).toNat]? = none := by simp; lia
    have hi2 : items2[((i : Nat) : Int).toNat]? = none := by simp; lia
    rw [hi1, hi2]
    wp_walk using wpAny_loadPart' hl, wpAny_loadPart' hb
    show R (.ok (.ret (.bool (items.size != items2.size)))) _
    rw [hsz]
    simpa using h
  | succ k ih =>
    intro i hk prog w A R s h
    obtain ⟨hh, g, d, tk, os⟩ := s; obtain ⟨hl, hb, he, h⟩ := h
    wp_walk using wpAny_loadPart' hl, wpAny_loadPart' hb
    have h1 : i < items.size := by lia
    have h2 : i < items2.size := by lia
    have hi1 : items[((i : Nat) : Int).toNat]? = some items[i] := by simp [h1]
    have hi2 : items2[((i : Nat) : Int).toNat]? = some items2[i] := by simp [h2]
    have hc : ((i : Int) + 1) = ((i + 1 : Nat) : Int) := by push_cast; rfl
    rw [hi1, hi2]
    refine wpAny_bind (he i h1 h2 prog w _ _ ?_)
    wp_walk
    rw [hc]
    exact ⟨plainId_quiet plain_eq_loop _, codeAny_builtin entry_eq_loop (by
        rw [Around.under_plainId plain_eq_loop _]
        exact ih (i + 1) (by lia) prog w A R _ ⟨hl, hb, he, h⟩)⟩
theorem list_neAt (a b : Addr) (items items2 : Array Value) (n n2 : Nat) (dd dd2 : Option Addr) (sl sl2 : Array (Option Value)) (hsz : items.size = items2.size) :
    Meets (Builtin.«list.__ne__» ⟨[.ref a, .ref b], []⟩)
      (fun A R s => s.heap.get? a = some { cls := .type "list", dict := dd, data := .seq items n, slots := sl } ∧ s.heap.get? b = some { cls := .type "list", dict := dd2, data := .seq items2 n2, slots := sl2 } ∧
        (∀ j (h1 : j < items.size) (h2 : j < items2.size), EqAt A.in1 s items[j] items2[j] true) ∧
        R (.ok (.ret (.bool false))) s) := by
  intro prog w A R s h
  obtain ⟨hp, g, d, tk, os⟩ := s; obtain ⟨hl, hb, he, h⟩ := h
  have f3 := AutoSeq1.sub_list_list
  have hne : ¬ (items.size != items2.size) = true := by simp [hsz]
  wp_walk using wpAny_loadPart' hl, wpAny_loadPart' hb
  exact ⟨plainId_quiet plain_eq_loop _, codeAny_builtin entry_eq_loop (by
    rw [Around.under_plainId plain_eq_loop _]
    exact ne_loopAt a b items items2 n n2 dd dd2 sl sl2 hsz _ 0 rfl prog w A R _ ⟨hl, hb, he, h⟩)⟩
end
end Mine
end PartD2
section PartD3
open PySem PySem.W PyProof.Rows
set_option linter.unusedVariables false
namespace Mine
open PySem.SeqAt
noncomputable def vEq : V → V → Bool
  | .int a, .int b => a == b
  | .flt a, .flt b => Float64.cmp a b == some .eq
  | .str a, .str b => a == b
  | _, _ => false
noncomputable def vLt : V → V → Bool
  | .int a, .int b => decide (a < b)
  | .flt a, .flt b => Float64.cmp a b == some .lt
  | .str a, .str b => decide (a.cps.toList < b.cps.toList)
  | _, _ => false
noncomputable def Cmpb : V → V → Prop
  | .int _, .int _ => True
  | .flt a, .flt _ => (Float64.cmp a a == some .eq) = true
  | .str _, .str _ => True
  | _, _ => False
noncomputable def lexL : List V → List V → Bool
  | d :: ds, e :: es => if vEq d e then lexL ds es else vLt d e
  | _, _ => false
noncomputable def CmpL : List V → List V → Prop
  | d :: ds, e :: es => Cmpb d e ∧ (vEq d e = true → CmpL ds es)
  | _, _ => True
noncomputable def eAt (ds es : List V) (j : Nat) : Bool := vEq (ds.getD j .none) (es.getD j .none)
noncomputable def lAt (ds es : List V) (j : Nat) : Bool := vLt (ds.getD j .none) (es.getD j .none)
theorem lexL_1 (d e : V) (ds es : List V) : lexL (d :: ds) (e :: es) = if vEq d e then lexL ds es else vLt d e := rfl
theorem lexAt_shift (e l : Nat → Bool) : ∀ k i, lexAt e l k (i + 1) = lexAt (fun j => e (j + 1)) (fun j => l (j + 1)) k i
  | 0, _ => rfl
  | k + 1, i => by rw [lexAt_1, lexAt_1, lexAt_shift e l k (i + 1)]
theorem lexAt_eq (ds : List V) : ∀ (es : List V), ds.length = es.length → lexAt (eAt ds es) (lAt ds es) ds.length 0 = lexL ds es := by
  induction ds with
  | nil => intro es h; cases es with
    | nil => rfl
    | cons e es => simp at h
  | cons d ds ih => intro es h; cases es with
    | nil => simp at h
    | cons e es =>
      rw [List.length_cons, lexAt_1, lexL_1, lexAt_shift]
      have := ih es (by simpa using h)
      rw [show (fun j => eAt (d :: ds) (e :: es) (j + 1)) = eAt ds es from rfl, show (fun j => lAt (d :: ds) (e :: es) (j + 1)) = lAt ds es from rfl, this]
      rfl
theorem CmpL.at : ∀ {ds es : List V}, CmpL ds es → ∀ {j : Nat} {d e : V}, ds[j]? = some d → es[j]? = some e → (∀ q, q < j → eAt ds es q = true) → Cmpb d e
  | a :: ds, b :: es, h, 0, d, e, h1, h2, _ => by
    simp only [List.getElem?_cons_zero, Option.some.injEq] at h1 h2
    subst h1 h2; exact h.1
  | a :: ds, b :: es, h, j + 1, d, e, h1, h2, hp => by
    refine CmpL.at (h.2 (hp 0 (Nat.succ_pos _))) (by simpa using h1) (by simpa using h2) fun q hq => hp (q + 1) (Nat.succ_lt_succ hq)
  | [], _, _, _, _, _, h1, _, _ => by simp at h1
  | _ :: _, [], _, _, _, _, _, h2, _ => by simp at h2
section
variable {prog : Program} {w : World} {c : Cx} {env : Env} {m : LM} {N : NM} {P : V → LM → NM → Prop}
theorem Cmpb.inv {d e : V} (hc : Cmpb d e) : (∃ a b, d = .int a ∧ e = .int b) ∨ (∃ a b, d = .flt a ∧ e = .flt b) ∨ ∃ a b, d = .str a ∧ e = .str b := by
  cases d with
  | int a => cases e with
    | int b => exact .inl ⟨a, b, rfl, rfl⟩
    | _ => exact hc.elim
  | flt a => cases e with
    | flt b => exact .inr (.inl ⟨a, b, rfl, rfl⟩)
    | _ => exact hc.elim
  | str a => cases e with
    | str b => exact .inr (.inr ⟨a, b, rfl, rfl⟩)
    | _ => exact hc.elim
  | _ => exact hc.elim
theorem eq_of_V {τ : TM} {A : Around} {h : Heap} {tk : Nat} {d e : V} {v u : Value} (hn : NoneBooked h) (hd : d.is τ v) (he : e.is τ u) (hc : Cmpb d e) : EqAt A (c.s h tk) v u (vEq d e) := by
  rcases hc.inv with ⟨a, b, rfl, rfl⟩ | ⟨a, b, rfl, rfl⟩ | ⟨a, b, rfl, rfl⟩
  · obtain ⟨t, rfl⟩ := hd; obtain ⟨t', rfl⟩ := he; exact EqAt.int_int a t b t'
  · refine hideG fun G9 kG9 => ?_
    obtain ⟨t, rfl, h1, h2⟩ := hd; obtain ⟨t', rfl, h3, h4⟩ := he
    refine kG9 ?_
    clear kG9
    exact EqAt.flts a b t t' h2 h4 (fun q => by rw [q, h3] at h1; exact (Option.some.inj h1).symm) hn hc
  · obtain ⟨t, rfl⟩ := hd; obtain ⟨t', rfl⟩ := he; exact EqAt.str_str a t b t'
theorem LtAt.strs {A : Around} {s : Shared} (a b : Str) (t u : Tok) : LtAt A s (.str a t) (.str b u) (decide (a.cps.toList < b.cps.toList)) := fun prog w E Q h => by
  have := PySem.P.lt_str (prog := prog) (w := w) (A := A) (E := E) (s := s) (x := a) (y := b) (t := t) (u := u) (Q := Q) h
  exact this
theorem lt_of_V {τ : TM} {A : Around} {s : Shared} {d e : V} {v u : Value} (hd : d.is τ v) (he : e.is τ u) (hc : Cmpb d e) : LtAt A s v u (vLt d e) := by
  rcases hc.inv with ⟨a, b, rfl, rfl⟩ | ⟨a, b, rfl, rfl⟩ | ⟨a, b, rfl, rfl⟩
  · obtain ⟨t, rfl⟩ := hd; obtain ⟨t', rfl⟩ := he; exact LtAt.ints a b t t'
  · obtain ⟨t, rfl, h1, h2⟩ := hd; obtain ⟨t', rfl, h3, h4⟩ := he; exact LtAt.flts a b t t'
  · obtain ⟨t, rfl⟩ := hd; obtain ⟨t', rfl⟩ := he; exact LtAt.strs a b t t'
theorem eq_arr {τ : TM} {A : Around} {h : Heap} {tk : Nat} {ds es : List V} {vs us : List Value} (hn : NoneBooked h) (hv : VS τ ds vs) (hu : VS τ es us) (hc : CmpL ds es) (j : Nat) (h1 : j < vs.toArray.size) (h2 : j < us.toArray.size) (hp : ∀ q, q < j → eAt ds es q = true) :
    EqAt A (c.s h tk) vs.toArray[j] us.toArray[j] (eAt ds es j) ∧ LtAt A (c.s h tk) vs.toArray[j] us.toArray[j] (lAt ds es j) := by
  simp only [List.size_toArray] at h1 h2
  refine hideG fun G9 kG9 => ?_
  obtain ⟨d, e1, i1⟩ := hv.get' (i := j) (List.getElem?_eq_getElem h1)
  obtain ⟨e, e2, i2⟩ := hu.get' (i := j) (List.getElem?_eq_getElem h2)
  refine kG9 ?_
  clear kG9
  have hcc := hc.at e1 e2 hp
  have q1 : eAt ds es j = vEq d e := by simp [eAt, List.getD, e1, e2]
  have q2 : lAt ds es j = vLt d e := by simp [lAt, List.getD, e1, e2]
  rw [q1, q2]
  simp only [List.getElem_toArray]
  exact ⟨eq_of_V hn i1 i2 hcc, lt_of_V i1 i2 hcc⟩
theorem lt_lists {τ : TM} {h : Heap} {tk : Nat} {a b : Addr} {ds es : List V} (hB : Bs w c.B) (hu : c.A.units < cLine) (ha : Rd c N a (.list ds)) (hb : Rd c N b (.list es)) (hl : ds.length = es.length) (hc : CmpL ds es) (S : St prog w c τ tk h m N) :
    LtAt c.A (c.s h tk) (.ref a) (.ref b) (lexL ds es) := by
  refine hideG fun G9 kG9 => ?_
  obtain ⟨o1, e1, is1⟩ := S.rd ha
  obtain ⟨o2, e2, is2⟩ := S.rd hb
  obtain ⟨vs, l1, v1, _⟩ := isList_of e1 is1
  obtain ⟨us, l2, v2, _⟩ := isList_of e2 is2
  obtain ⟨_, _, _, _, _, _, hn⟩ := hB.T h S.keep
  refine kG9 ?_
  clear kG9
  have := LtAt.lists (A := c.A) (s := c.s h tk) (e := eAt ds es) (lt := lAt ds es) l1 l2 (by simp [v1.length, v2.length, hl]) hu (fun j h1 h2 hp => (eq_arr (c := c) hn v1 v2 hc j h1 h2 hp).1) (fun j h1 h2 hp _ => (eq_arr (c := c) hn v1 v2 hc j h1 h2 hp).2)
  rw [List.size_toArray, v1.length, lexAt_eq ds es hl] at this
  exact this
theorem Cp.ltL {a b : Addr} {ds es : List V} (hB : Bs w c.B) (hu : c.A.units < cLine) (ha : Rd c N a (.list ds)) (hb : Rd c N b (.list es)) (hl : ds.length = es.length) (hc : CmpL ds es) (h : P (.bool (lexL ds es)) m N) : Cp prog w c .Lt (.ref a) (.ref b) m N P := by
  rintro τ _ _ rfl rfl
  exact ⟨fun H tk S => lt_lists hB hu ha hb hl hc S prog w _ _ (Out.val (d := .bool _) S rfl h)⟩
theorem Cp.ltT {a b : Addr} {ds es : List V} (hB : Bs w c.B) (hu : c.A.units < cLine) (ha : Rd c N a (.tup ds)) (hb : Rd c N b (.tup es)) (hl : ds.length = es.length) (hc : CmpL ds es) (h : P (.bool (lexL ds es)) m N) : Cp prog w c .Lt (.ref a) (.ref b) m N P := by
  rintro τ _ _ rfl rfl
  refine ⟨fun H tk S => ?_⟩
  refine hideG fun G9 kG9 => ?_
  obtain ⟨o1, e1, is1⟩ := S.rd ha
  obtain ⟨o2, e2, is2⟩ := S.rd hb
  obtain ⟨vs, l1, v1⟩ := isTup_of e1 is1
  obtain ⟨us, l2, v2⟩ := isTup_of e2 is2
  obtain ⟨_, _, _, _, _, _, hn⟩ := hB.T H S.keep
  refine kG9 ?_
  clear kG9
  have := LtAt.tuples (A := c.A) (s := c.s H tk) (e := eAt ds es) (lt := lAt ds es) l1 l2 (by simp [v1.length, v2.length, hl]) hu (fun j h1 h2 hp => (eq_arr (c := c) hn v1 v2 hc j h1 h2 hp).1) (fun j h1 h2 hp _ => (eq_arr (c := c) hn v1 v2 hc j h1 h2 hp).2)
  rw [List.size_toArray, v1.length, lexAt_eq ds es hl] at this
  exact this prog w _ _ (Out.val (d := .bool _) S rfl h)
/- lists of floats, one like the other: != says no -/
theorem Cp.neF {a b : Addr} {us : List UInt64} (hB : Bs w c.B) (hu : c.A.units < cLine) (ha : Rd c N a (.list (us.map .flt))) (hb : Rd c N b (.list (us.map .flt))) (hr : ∀ u ∈ us, (Float64.cmp u u == some .eq) = true) (h : P (.bool false) m N) : Cp prog w c .NotEq (.ref a) (.ref b) m N P := by
  rintro τ _ _ rfl rfl
  refine ⟨fun H tk S => ?_⟩
  refine hideG fun G9 kG9 => ?_
  obtain ⟨o1, e1, is1⟩ := S.rd ha
  obtain ⟨o2, e2, is2⟩ := S.rd hb
  obtain ⟨vs, l1, v1, _⟩ := isList_of e1 is1
  obtain ⟨xs, l2, v2, _⟩ := isList_of e2 is2
  obtain ⟨_, _, _, _, _, _, hn⟩ := hB.T H S.keep
  obtain ⟨⟨cls, dd, data, sl⟩, ho, hc, n, hd⟩ := id l1
  obtain ⟨⟨cls2, dd2, data2, sl2⟩, ho2, hc2, n2, hd2⟩ := id l2
  refine kG9 ?_
  clear kG9
  simp only at hc hd hc2 hd2
  subst hc hd hc2 hd2
  refine richCompare_meets_room (s := c.s H tk) (op := .NotEq) ⟨_, ho, rfl⟩ ⟨_, ho2, rfl⟩ F.slot_list_ne F.entry_list_ne (F.args_list_ne_2 _ _) (list_neAt a b _ _ n n2 dd dd2 sl sl2 (by simp [v1.length, v2.length]))
    ⟨ho, ho2, fun j h1 h2 => ?_, show Value.bool false ≠ Value.notImplemented ∧ _ from ⟨(fun x => nomatch x), Out.val (d := .bool false) S rfl h⟩⟩ hu
  simp only [List.size_toArray] at h1 h2
  refine hideG fun G9 kG9 => ?_
  obtain ⟨d, e1, i1⟩ := v1.get' (i := j) (List.getElem?_eq_getElem h1)
  obtain ⟨e, e2, i2⟩ := v2.get' (i := j) (List.getElem?_eq_getElem h2)
  refine kG9 ?_
  clear kG9
  rw [List.getElem?_map] at e1 e2
  cases q : us[j]? with
  | none => rw [q] at e1; cases e1
  | some u =>
    rw [q] at e1 e2; cases e1; cases e2
    have := eq_of_V (c := c) (tk := tk) (A := c.A.in1) hn i1 i2 (hr u (List.mem_of_getElem? q))
    simp only [List.getElem_toArray]
    rw [show vEq (.flt u) (.flt u) = true from hr u (List.mem_of_getElem? q)] at this
    exact this
end
end Mine
end PartD3
section PartD4
open PySem PySem.W PyProof.Rows
set_option linter.unusedVariables false
namespace Mine
section
variable {prog : Program} {w : World} {c : Cx} {env : Env} {m : LM} {N : NM} {Pn Pb Pc : LM → NM → Prop} {Pr : V → LM → NM → Prop} {P : V → LM → NM → Prop} {T : Bool → LM → NM → Prop}
theorem FE.inter {sc : Scope} (E : FE env c sc) : interactive env = false := by unfold interactive; rw [E.kind]; rfl
theorem Te.plain {e : Expr} (h : Ev prog w c env e m N (fun d m1 N1 => Tu prog w c d m1 N1 T)) (he : isTrue e env (eval e env) = (do let v ← eval e env; standAt e.pos; holding [v] (truthy v)) := by rfl) :
    Te prog w c env e m N T := fun τ => by
  rw [he]
  exact Ta.bind (Ta.mono (h τ) fun τ' v m' N' ⟨d, hd, p⟩ => Ta.bind (Ta.standAt (Ta.holding (p τ' v hd))))
theorem Te.not {x : Expr} {pos : Pos} (h : Te prog w c env x m N (fun b m1 N1 => T (!b) m1 N1)) : Te prog w c env (.UnaryOp .Not x pos) m N T := fun τ => ⟨fun H tk S => isTrue_not ((h τ).run H tk S)⟩
theorem Te.and0 {pos : Pos} (h : T true m N) : Te prog w c env (.BoolOp .And [] pos) m N T := fun τ => ⟨fun H tk S => isTrue_and_nil (.here S h)⟩
theorem Te.or0 {pos : Pos} (h : T false m N) : Te prog w c env (.BoolOp .Or [] pos) m N T := fun τ => ⟨fun H tk S => isTrue_or_nil (.here S h)⟩
theorem wholeEq {op : BoolOp} {xs : List Expr} {pos : Pos} (a b : Sem Value) : isTrue (.BoolOp op xs pos) env a = isTrue (.BoolOp op xs pos) env b := rfl
theorem Te.and {x : Expr} {rest : List Expr} {pos : Pos} (h : Te prog w c env x m N (fun b m1 N1 => (b = true → Te prog w c env (.BoolOp .And rest pos) m1 N1 T) ∧ (b = false → T false m1 N1))) : Te prog w c env (.BoolOp .And (x :: rest) pos) m N T := fun τ => ⟨fun H tk S => by
  refine isTrue_and (wgo ((h τ).run H tk S) (fun b τ1 h' tk' m' N' l S' p => ?_))
  cases b with
  | true => rw [if_pos rfl, wholeEq _ (eval (.BoolOp .And rest pos) env)]; exact wpAny_mono ((p.1 rfl τ1).run h' tk' S') (fun _ _ o => o.le l) fun _ _ x => x
  | false => rw [if_neg Bool.false_ne_true]; exact Out.le l (Out.here S' (p.2 rfl))⟩
theorem Te.or {x : Expr} {rest : List Expr} {pos : Pos} (h : Te prog w c env x m N (fun b m1 N1 => (b = true → T true m1 N1) ∧ (b = false → Te prog w c env (.BoolOp .Or rest pos) m1 N1 T))) : Te prog w c env (.BoolOp .Or (x :: rest) pos) m N T := fun τ => ⟨fun H tk S => by
  refine isTrue_or (wgo ((h τ).run H tk S) (fun b τ1 h' tk' m' N' l S' p => ?_))
  cases b with
  | false => rw [if_neg Bool.false_ne_true, wholeEq _ (eval (.BoolOp .Or rest pos) env)]; exact wpAny_mono ((p.2 rfl τ1).run h' tk' S') (fun _ _ o => o.le l) fun _ _ x => x
  | true => rw [if_pos rfl]; exact Out.le l (Out.here S' (p.1 rfl))⟩
theorem Ev.or2 {e₁ e₂ : Expr} {pos : Pos} (h : Ev prog w c env e₁ m N (fun d m1 N1 => Tu prog w c d m1 N1 (fun b m2 N2 => (b = true → P d m2 N2) ∧ (b = false → Ev prog w c env e₂ m2 N2 P)))) : Ev prog w c env (.BoolOp .Or [e₁, e₂] pos) m N P := fun τ => ⟨fun H tk S => by
  refine BoolOp_or (wgo2 ((h τ).run H tk S) (fun v τ1 h1 tk1 m1 N1 l S1 d hd p => ?_))
  refine wgo ((p τ1 v hd).run h1 tk1 S1) (fun b τ2 h2 tk2 m2 N2 l2 S2 q => ?_)
  cases b with
  | true => rw [if_pos rfl]; exact Out.le (l.trans l2) (Out.val S2 (hd.mono l2) (q.1 rfl))
  | false => rw [if_neg Bool.false_ne_true]; exact BoolOp_one (wpAny_mono ((q.2 rfl τ2).run h2 tk2 S2) (fun _ _ o => o.le (l.trans l2)) fun _ _ x => x)⟩
end
end Mine
end PartD4
section PartD5
open PySem PySem.W PyProof.Rows
set_option linter.unusedVariables false
namespace Mine
section
variable {prog : Program} {w : World} {c : Cx} {env : Env} {m : LM} {N : NM} {Pn Pb Pc : LM → NM → Prop} {Pr : V → LM → NM → Prop} {P : V → LM → NM → Prop}
/- x = y = e -/
theorem Ex.assign2 {x y : Str} {px py pos : Pos} {e : Expr} (h : Ev prog w c env e m N (fun d m1 N1 => Sn prog w c env x d m1 N1 (fun m2 N2 => Sn prog w c env y d m2 N2 Pn)))
    (he : (assignEach [.Name x px, .Name y py] env).map (·.2) = [PySem.assign (.Name x px) env, PySem.assign (.Name y py) env]) (hw : swappedStores [.Name x px, .Name y py] e env = pure Option.none) :
    Ex prog w c env (.Assign [.Name x px, .Name y py] e pos) m N Pn Pb Pc Pr := fun τ => ⟨fun H tk S => by
  refine wpAny_Assign_two (wgo2 ((h τ).run H tk S) (fun v τ1 h1 tk1 m1 N1 l1 S1 d hd p => ?_)) he hw
  refine assign_Name (wgo ((p τ1 v hd).run h1 tk1 S1) (fun _ τ2 h2 tk2 m2 N2 l2 S2 q => ?_))
  exact assign_Name (wpAny_mono ((q τ2 v (hd.mono l2)).run h2 tk2 S2) (fun _ _ o => o.le (l1.trans l2)) fun _ _ x => x)⟩
/- names, one after the other -/
noncomputable def SnL (prog : Program) (w : World) (c : Cx) (env : Env) : List Str → List V → LM → NM → (LM → NM → Prop) → Prop
  | x :: xs, d :: ds, m, N, P => Sn prog w c env x d m N (fun m' N' => SnL prog w c env xs ds m' N' P)
  | _, _, m, N, P => P m N
theorem SnL.run {τ : TM} {P : LM → NM → Prop} : ∀ {names : List Str} {ds : List V} {vs : List Value} {m : LM} {N : NM}, names.length = ds.length → VS τ ds vs → SnL prog w c env names ds m N P → ∀ {ts : List (Value → Sem Unit)}, ts = names.map (fun n => bindName env n) →
    Ta prog w c τ (assignInOrder ts vs) m N (fun _ _ => P)
  | [], [], [], m, N, _, _, h, ts, e => by subst e; exact ⟨fun H tk S => wpAny_assignInOrder_none (Out.here S h)⟩
  | x :: xs, d :: ds, v :: vs, m, N, hl, hv, h, ts, e => by
    subst e
    refine ⟨fun H tk S => wpAny_assignInOrder_more (wpAny_bindName (wgo ((h τ v hv.1).run H tk S) (fun _ τ1 h1 tk1 m1 N1 l1 S1 p => ?_)))⟩
    exact wpAny_mono ((SnL.run (by simpa using hl) (hv.2.mono l1) p rfl).run h1 tk1 S1) (fun _ _ o => o.le l1) fun _ _ x => x
  | [], _ :: _, _, _, _, hl, _, _, _, _ => by simp at hl
  | _ :: _, [], _, _, _, hl, _, _, _, _ => by simp at hl
  | [], [], _ :: _, _, _, _, hv, _, _, _ => hv.elim
  | _ :: _, _ :: _, [], _, _, _, hv, _, _, _ => hv.elim
theorem SnL.run' {τ : TM} {P : LM → NM → Prop} : ∀ {names : List (Str × Pos)} {ds : List V} {vs : List Value} {m : LM} {N : NM}, names.length = ds.length → VS τ ds vs → SnL prog w c env (names.map (·.1)) ds m N P → ∀ {ts : List (Value → Sem Unit)}, ts = names.map (fun n => PySem.assign (.Name n.1 n.2) env) →
    Ta prog w c τ (assignInOrder ts vs) m N (fun _ _ => P)
  | [], [], [], m, N, _, _, h, ts, e => by subst e; exact ⟨fun H tk S => wpAny_assignInOrder_none (Out.here S h)⟩
  | x :: xs, d :: ds, v :: vs, m, N, hl, hv, h, ts, e => by
    subst e
    refine ⟨fun H tk S => wpAny_assignInOrder_more (assign_Name (wgo ((h τ v hv.1).run H tk S) (fun _ τ1 h1 tk1 m1 N1 l1 S1 p => ?_)))⟩
    exact wpAny_mono ((SnL.run' (by simpa using hl) (hv.2.mono l1) p rfl).run h1 tk1 S1) (fun _ _ o => o.le l1) fun _ _ x => x
  | [], _ :: _, _, _, _, hl, _, _, _, _ => by simp at hl
  | _ :: _, [], _, _, _, hl, _, _, _, _ => by simp at hl
  | [], [], _ :: _, _, _, _, hv, _, _, _ => hv.elim
  | _ :: _, _ :: _, [], _, _, _, hv, _, _, _ => hv.elim
/- x, y = e: a tuple is taken apart -/
theorem Ex.unpack {elts : List Expr} {k : Nat} {tpos pos : Pos} {e : Expr} (names : List (Str × Pos)) (hh : c.A.handled = Option.none)
    (h : Ev prog w c env e m N (fun d m1 N1 => ∃ a ds, d = .ref a ∧ Rd c N1 a (.tup ds) ∧ names.length = ds.length ∧ SnL prog w c env (names.map (·.1)) ds m1 N1 Pn))
    (hs : swapsWithSole [.Tuple elts k tpos] e pos.line env = pure false) (hw : swappedStores [.Tuple elts k tpos] e env = pure Option.none)
    (he : (assignEach elts env).map (·.2) = names.map (fun n => PySem.assign (.Name n.1 n.2) env)) (hstar : (assignEach elts env).findIdx? (·.1) = Option.none) :
    Ex prog w c env (.Assign [.Tuple elts k tpos] e pos) m N Pn Pb Pc Pr := fun τ => ⟨fun H tk S => by
  refine Assign_Tuple (wgo2 ((h τ).run H tk S) (fun v τ1 h1 tk1 m1 N1 l1 S1 d hd oo => ?_)) hs hw
  refine hideG fun G9 kG9 => ?_
  obtain ⟨a, ds, ed, hr, hn, p⟩ := oo
  refine kG9 ?_
  clear kG9
  subst ed
  cases hd
  refine hideG fun G9 kG9 => ?_
  obtain ⟨o, eo, is⟩ := S1.rd hr
  obtain ⟨vs, ht, hv⟩ := isTup_of eo is
  refine kG9 ?_
  clear kG9
  refine assign_Tuple_tuple (s := c.s h1 tk1) hh ht ?_ hstar fun h' hx => ?_
  · have := congrArg List.length he
    rw [List.length_map, List.length_map] at this
    rw [this, hn, List.size_toArray, hv.length]
  · have S2 : St prog w c τ1 tk1 h' m1 N1 := S1.grow fun b o eb => hx b o (Nat.ne_of_lt (Heap.lt_size eb)) eb
    exact wpAny_mono ((SnL.run' hn hv p he).run h' tk1 S2) (fun _ _ o => o.le l1) fun _ _ x => x⟩
/- a, b = b, a: the stores go from the last on -/
theorem Ex.swap {elts : List Expr} {k : Nat} {tpos pos : Pos} {e : Expr} {x y : Str} (hh : c.A.handled = Option.none)
    (h : Ev prog w c env e m N (fun d m1 N1 => ∃ a d1 d2, d = .ref a ∧ Rd c N1 a (.tup [d1, d2]) ∧ Sn prog w c env y d2 m1 N1 (fun m2 N2 => Sn prog w c env x d1 m2 N2 Pn)))
    (hs : swapsWithSole [.Tuple elts k tpos] e pos.line env = pure false) (hw : swappedStores [.Tuple elts k tpos] e env = pure (some [x, y])) :
    Ex prog w c env (.Assign [.Tuple elts k tpos] e pos) m N Pn Pb Pc Pr := fun τ => ⟨fun H tk S => by
  refine Assign_Tuple_swapped (names := [x, y]) (wgo2 ((h τ).run H tk S) (fun v τ1 h1 tk1 m1 N1 l1 S1 d hd oo => ?_)) hs hw
  refine hideG fun G9 kG9 => ?_
  obtain ⟨a, d1, d2, ed, hr, p⟩ := oo
  refine kG9 ?_
  clear kG9
  subst ed
  cases hd
  refine hideG fun G9 kG9 => ?_
  obtain ⟨o, eo, is⟩ := S1.rd hr
  obtain ⟨vs, ht, hv⟩ := isTup_of eo is
  obtain ⟨v1, v2, rfl, i1, i2⟩ := hv.two
  refine kG9 ?_
  clear kG9
  refine unpackItems_tuple (s := c.s h1 tk1) (items := #[v1, v2]) hh ht fun h' hx => ?_
  have S2 : St prog w c τ1 tk1 h' m1 N1 := S1.grow fun b o eb => hx b o (Nat.ne_of_lt (Heap.lt_size eb)) eb
  exact wpAny_mono ((SnL.run (names := [y, x]) (ds := [d2, d1]) (vs := [v2, v1]) rfl ⟨i2, i1, trivial⟩ p rfl).run h' tk1 S2) (fun _ _ o => o.le l1) fun _ _ x => x⟩
end
end Mine
end PartD5
section PartS1
open PySem PySem.W PyProof.Rows
set_option linter.unusedVariables false
namespace Mine
/- a string by its letters -/
abbrev sx (cs : List Nat) : Str := ⟨cs.toArray⟩
theorem sx_len (cs : List Nat) : (sx cs).length = cs.length := by simp [Str.length]
theorem sx_inj {a b : List Nat} : sx a = sx b ↔ a = b := by
  constructor
  · intro h; have := congrArg (fun s : Str => s.cps.toList) h; simpa using this
  · intro h; rw [h]
theorem slice_from {cs : List Nat} {i : Nat} (h : i ≤ cs.length) : Txt.slice (sx cs) (some (i : Int)) none = sx (cs.drop i) := by
  have := slice_closes_fromL (x := sx cs) (i := i) (b := (sx cs).length) (by exact Int.natCast_nonneg _) (by rw [sx_len]; lia) rfl
  rw [eq_of_beq this, sx_len]
  simp only [Int.toNat_natCast]
  congr 2
  rw [List.take_of_length_le]
  rw [List.length_drop]; lia
theorem slice_to {cs : List Nat} {j : Nat} (h : j ≤ cs.length) : Txt.slice (sx cs) none (some (j : Int)) = sx (cs.take j) := by
  have := slice_closes_toL (x := sx cs) (j := j) (by exact Int.natCast_nonneg _) (by rw [sx_len]; lia)
  rw [eq_of_beq this]
  simp
theorem slice_toN {cs : List Nat} {j : Nat} (h0 : 0 < j) : Txt.slice (sx cs) none (some (-(j : Int))) = sx (cs.take (cs.length - j)) := by
  rw [slice_to_neg (by lia), sx_len]
  have : max 0 ((cs.length : Int) + -(j : Int)) = ((cs.length - j : Nat) : Int) := by lia
  rw [this, slice_to (by lia)]
theorem slice_all {cs : List Nat} : Txt.slice (sx cs) none none = sx cs := by
  have h : Txt.slice (sx cs) none none = Txt.slice (sx cs) (some ((0 : Nat) : Int)) none := by
    show StrLaws.sliceText _ none none = StrLaws.sliceText _ (some 0) none
    unfold StrLaws.sliceText
    have : Builtin.Str.strSliceIndices none none 1 (sx cs).length = Builtin.Str.strSliceIndices (some 0) none 1 (sx cs).length := by
      have e : max (0 : Int) (min 0 ((sx cs).length : Int)) = 0 := by lia
      simp [Builtin.Str.strSliceIndices, e]
    rw [this]
  rw [h, slice_from (by exact Nat.zero_le _)]; simp
section
variable {prog : Program} {w : World} {c : Cx} {env : Env} {m : LM} {N : NM} {P : V → LM → NM → Prop}
theorem keepP (H : Heap) : KeptH (fun h' => ∀ a o, H.get? a = some o → h'.get? a = some o) := fun h ob k a o e => Heap.get?_push_of_some _ (k a o e)
theorem Ev.sliceFrom {value lo : Expr} {p pos : Pos} (h : Ev prog w c env value m N (fun d m1 N1 => ∃ x, d = .str x ∧ x.length ≤ 1000 ∧ Ev prog w c env lo m1 N1 (fun e m2 N2 => ∃ i, e = .int i ∧ P (.str (Txt.slice x (some i) Option.none)) m2 N2))) :
    Ev prog w c env (.Subscript value (.Slice (some lo) Option.none Option.none p) pos) m N P := fun τ => Ta.mk' fun H tk S => by
  refine Subscript_ (wgo2 ((h τ).run H tk S) (fun vo τ1 h1 tk1 m1 N1 l1 S1 o ho oo => ?_))
  obtain ⟨x, ex, hx, p⟩ := oo
  subst ex
  obtain ⟨t, rfl⟩ := ho
  refine wpAny_Slice (wgo2 ((p τ1).run h1 tk1 S1) (fun vi τ2 h2 tk2 m2 N2 l2 S2 i hi oo => ?_))
  obtain ⟨j, ej, q⟩ := oo
  subst ej
  obtain ⟨u, rfl⟩ := hi
  refine wpAny_pure (wpAny_pure ?_)
  refine wpAny_with_toks (n := tk2) (Nat.le_refl _) ?_
  obtain ⟨T, id, hl, hT, hg⟩ := SBH.sliceItem_sn (prog := prog) (w := w) (A := c.A) (E := fun _ s' => tk2 ≤ s'.toks → False) (s := c.s h2 tk2) (x := x) (t := t) (i := j) (ui := u) (keepP h2) (fun a o e => e) (Q := fun v s' => tk2 ≤ s'.toks → tk ≤ s'.toks → Out prog w c τ (fun τ' m' N' => ∃ d : V, d.is τ' v ∧ P d m' N') s')
    (fun h' t' k hk hle _ => ⟨τ2, h', k, m2, N2, rfl, l1.trans l2, (S2.grow hk).later hle, .str _, ⟨t', rfl⟩, q⟩) (by rw [sizeLine_eq]; exact Nat.le_trans (by assumption) (by decide))
  exact tail_any hT hl hg (ops := [.ref h2.objs.size, .str x t]) (by with_unfolding_all rfl)
theorem Ev.sliceTo {value lo : Expr} {p pos : Pos} (h : Ev prog w c env value m N (fun d m1 N1 => ∃ x, d = .str x ∧ x.length ≤ 1000 ∧ Ev prog w c env lo m1 N1 (fun e m2 N2 => (∃ i, e = .int i ∧ P (.str (Txt.slice x Option.none (some i))) m2 N2) ∨ (e = .none ∧ P (.str (Txt.slice x Option.none Option.none)) m2 N2)))) :
    Ev prog w c env (.Subscript value (.Slice Option.none (some lo) Option.none p) pos) m N P := fun τ => Ta.mk' fun H tk S => by
  refine Subscript_ (wgo2 ((h τ).run H tk S) (fun vo τ1 h1 tk1 m1 N1 l1 S1 o ho oo => ?_))
  obtain ⟨x, ex, hx, p⟩ := oo
  subst ex
  obtain ⟨t, rfl⟩ := ho
  refine wpAny_Slice (wpAny_pure (wgo2 ((p τ1).run h1 tk1 S1) (fun vi τ2 h2 tk2 m2 N2 l2 S2 i hi hq => ?_)))
  refine wpAny_pure ?_
  rcases hq with ⟨j, ej, q⟩ | ⟨ej, q⟩
  · subst ej
    obtain ⟨u, rfl⟩ := hi
    refine wpAny_with_toks (n := tk2) (Nat.le_refl _) ?_
    obtain ⟨T, id, hl, hT, hg⟩ := SBH.sliceItem_ns (prog := prog) (w := w) (A := c.A) (E := fun _ s' => tk2 ≤ s'.toks → False) (s := c.s h2 tk2) (x := x) (t := t) (j := j) (uj := u) (keepP h2) (fun a o e => e) (Q := fun v s' => tk2 ≤ s'.toks → tk ≤ s'.toks → Out prog w c τ (fun τ' m' N' => ∃ d : V, d.is τ' v ∧ P d m' N') s')
      (fun h' t' k hk hle _ => ⟨τ2, h', k, m2, N2, rfl, l1.trans l2, (S2.grow hk).later hle, .str _, ⟨t', rfl⟩, q⟩) (by rw [sizeLine_eq]; exact Nat.le_trans (by assumption) (by decide))
    exact tail_any hT hl hg (ops := [.ref h2.objs.size, .str x t]) (by with_unfolding_all rfl)
  · subst ej
    cases hi
    refine wpAny_with_toks (n := tk2) (Nat.le_refl _) ?_
    obtain ⟨T, id, hl, hT, hg⟩ := SBH.sliceItem_nn (prog := prog) (w := w) (A := c.A) (E := fun _ s' => tk2 ≤ s'.toks → False) (s := c.s h2 tk2) (x := x) (t := t) (keepP h2) (fun a o e => e) (Q := fun v s' => tk2 ≤ s'.toks → tk ≤ s'.toks → Out prog w c τ (fun τ' m' N' => ∃ d : V, d.is τ' v ∧ P d m' N') s')
      (fun h' t' k hk hle _ => ⟨τ2, h', k, m2, N2, rfl, l1.trans l2, (S2.grow hk).later hle, .str _, ⟨t', rfl⟩, q⟩) (by rw [sizeLine_eq]; exact Nat.le_trans (by assumption) (by decide))
    exact tail_any hT hl hg (ops := [.ref h2.objs.size, .str x t]) (by with_unfolding_all rfl)

theorem Ev.strItem {value slice : Expr} {cs : List Nat} {i : Int} {ch : Nat} (h0 : -(2 ^ 62) ≤ i) (h1 : i < 2 ^ 62) (hc : (seqIndex? i cs.length).bind (cs[·]?) = some ch) (h : P (.str (sx [ch])) m N) (hs : plainSlice slice = true := by rfl) : Sb prog w c value slice (.str (sx cs)) (.int i) m N P := by
  rintro τ _ _ ⟨t, rfl⟩ ⟨u, rfl⟩
  refine ⟨fun H tk S => ?_⟩
  refine tail_any (s := c.s H tk) (T := "str") (typeIs_str _ _ _) F.slot_str_getitem.lookup (PySem.P.getItem_str (by simp; lia) (by rw [sx_len]; simpa using hc) ?_) (plain_sub hs _ _)
  exact Out.val (d := .str _) (S.later (Nat.le_succ _)) ⟨_, rfl⟩ h
theorem Cp.eqS {a b : List Nat} (h : P (.bool (decide (a = b))) m N) : Cp prog w c .Eq (.str (sx a)) (.str (sx b)) m N P := by
  rintro τ _ _ ⟨t, rfl⟩ ⟨u, rfl⟩
  refine ⟨fun H tk S => ?_⟩
  with_reducible refine PySem.P.eq_str ?_
  have : ((sx a).cps.toList == (sx b).cps.toList) = decide (a = b) := by rw [Bool.eq_iff_iff]; simp
  rw [this]
  exact Out.val (d := .bool _) S rfl h
theorem Bi.addS {a b : List Nat} (hl : a.length + b.length ≤ 1000) (h : P (.str (sx (a ++ b))) m N) : Bi prog w c .Add (.str (sx a)) (.str (sx b)) m N P := by
  rintro τ _ _ ⟨t, rfl⟩ ⟨u, rfl⟩
  refine ⟨fun H tk S => ?_⟩
  with_reducible refine PySem.P.add_str ?_
  by_cases ha : a = []
  · subst ha
    rw [if_pos (show ((sx []).length == 0) = true from rfl)]
    exact Out.val (d := .str _) S ⟨_, rfl⟩ h
  · rw [if_neg (by rw [sx_len]; simpa using ha)]
    by_cases hb : b = []
    · subst hb
      rw [if_pos (show ((sx []).length == 0) = true from rfl)]
      rw [List.append_nil] at h
      exact Out.val (d := .str _) S ⟨_, rfl⟩ h
    · rw [if_neg (by rw [sx_len]; simpa using hb)]
      have e : sx a ++ sx b = sx (a ++ b) := by
        show (⟨a.toArray ++ b.toArray⟩ : Str) = _
        simp
      rw [e]
      refine ⟨?_, Out.val (d := .str _) (S.later (Nat.le_succ _)) ⟨_, rfl⟩ h⟩
      rw [sx_len, sizeLine_eq, List.length_append]; exact Nat.le_trans (by assumption) (by decide)
theorem Ca.lenS {a : List Nat} (hl : a.length ≤ 1000) (h : P (.int a.length) m N) : Ca prog w c (.bi "len") [.str (sx a)] m N P := by
  rintro τ _ _ rfl hvs
  refine ⟨fun H tk S => ?_⟩
  obtain ⟨_, rfl, t, rfl⟩ := hvs.one
  with_reducible refine PySem.P.len_str (by rw [sx_len]; lia) ?_
  rw [sx_len]
  exact Out.val (d := .int _) (S.later (Nat.le_add_right _ 2)) ⟨_, rfl⟩ h
theorem Tu.str {a : List Nat} {P : Bool → LM → NM → Prop} (hl : a.length ≤ 1000) (h : P (decide (a ≠ [])) m N) : Tu prog w c (.str (sx a)) m N P := by
  rintro τ _ ⟨t, rfl⟩
  refine ⟨fun H tk S => ?_⟩
  with_reducible refine PySem.P.truthy_str (by rw [sx_len]; lia) ?_
  have : (((sx a).length : Int) != 0) = decide (a ≠ []) := by
    rw [sx_len, Bool.eq_iff_iff]; simp
  rw [this]
  exact Out.here (S.later (Nat.le_add_right _ 2)) h
theorem Tu.int {a : Int} {P : Bool → LM → NM → Prop} (h : P (a != 0) m N) : Tu prog w c (.int a) m N P := by
  rintro τ _ ⟨t, rfl⟩
  refine ⟨fun H tk S => ?_⟩
  with_reducible refine PySem.P.truthy_int ?_
  exact Out.here S h
end
end Mine
end PartS1
section PartS2
open PySem PySem.W PyProof.Rows
set_option linter.unusedVariables false
set_option maxRecDepth 100000
namespace Mine
noncomputable def lowC (ch : Nat) : Nat := if 65 ≤ ch ∧ ch ≤ 90 then ch + 32 else ch
theorem low_ok : ∀ ch ∈ [65, 66, 67, 68, 69, 70, 97, 98, 99, 100, 101, 102], PySem.placed (sx [ch]) (fun i _ => Unicode.lowerAt (sx [ch]).cps i) = #[lowC ch] := by decide +kernel
section
variable {prog : Program} {w : World} {c : Cx} {env : Env} {m : LM} {N : NM} {P : V → LM → NM → Prop}
theorem Ca.lower {ch : Nat} (hc : ch ∈ [65, 66, 67, 68, 69, 70, 97, 98, 99, 100, 101, 102]) (h : P (.str (sx [lowC ch])) m N) : Ca prog w c (.bi "str.lower") [.str (sx [ch])] m N P := by
  rintro τ _ _ rfl hvs
  refine ⟨fun H tk S => ?_⟩
  obtain ⟨_, rfl, t, rfl⟩ := hvs.one
  have e := low_ok ch hc
  refine call_gives F.slot_str_lower (typeIs_str _ _ _) F.entry_str_lower (F.args_str_lower_1 _) (gives_str_lower (sx [ch]) t (by rw [e]; rfl)) ?_
  rw [e]
  exact ⟨by show 1 ≤ sizeLine; rw [sizeLine_eq]; omega, Out.val (d := .str _) (S.later (Nat.le_succ _)) ⟨_, rfl⟩ h⟩
theorem Ev.lower {o : Expr} {apos pos : Pos} (h : Ev prog w c env o m N (fun d m1 N1 => Ty prog w c N1 d "str" ∧ Ca prog w c (.bi "str.lower") [d] m1 N1 P))
    (hbase : attributeBase o (Str.ofString "lower") env (eval o env) = eval o env) (hline : (apos.endLine == pos.line) = true) :
    Ev prog w c env (.Call (.Attribute o (Str.ofString "lower") apos) [] [] pos) m N P := Ev.meth0 F.plainAttrs_str F.slot_str_lower F.type_str_lower h hbase hline
end
end Mine
end PartS2
section PartT1
open PySem PySem.W PyProof.Rows
set_option linter.unusedVariables false
namespace Mine
/- the sort's tree, its questions answered by keys -/
noncomputable def trun {α : Type} (lt : Nat → Nat → Bool) : KasT α → α
  | .ret a => a
  | .ask i j k => trun lt (k (lt i j))
theorem trun_bind {α β : Type} (lt : Nat → Nat → Bool) (f : α → KasT β) : ∀ t : KasT α, trun lt (t.bind f) = trun lt (f (trun lt t))
  | .ret _ => rfl
  | .ask i j k => trun_bind lt f (k (lt i j))
section
variable (key : Nat → Nat)
/- ascending at the places from a up to (not with) b -/
noncomputable def AscK (p : Array Nat) (a b : Nat) : Prop := ∀ i j, a ≤ i → i < j → j < b → key (p.getD i 0) < key (p.getD j 0)
noncomputable def kl (i j : Nat) : Bool := decide (key i < key j)
variable {key}
theorem AscK.snoc {p : Array Nat} {a n : Nat} (h : AscK key p a n) (hn : a < n → key (p.getD (n - 1) 0) < key (p.getD n 0)) : AscK key p a (n + 1) := fun i j hi hij hj => by
  rcases Nat.lt_succ_iff_lt_or_eq.mp hj with q | q
  · exact h i j hi hij q
  · subst q
    have h1 := hn (by exact Nat.lt_of_le_of_lt (by assumption) (by assumption))
    by_cases e : i = j - 1
    · rw [e]; exact h1
    · exact Nat.lt_trans (h i (j - 1) hi (by lia) (by lia)) h1
theorem asc_run (p : Array Nat) : ∀ (f n : Nat), 1 ≤ n → AscK key p 0 n → (∀ i j, i < n + f → j < n + f → key (p.getD i 0) = key (p.getD j 0) → i = j) →
    n ≤ trun (kl key) (kas_asc p f n) ∧ trun (kl key) (kas_asc p f n) ≤ n + f ∧ AscK key p 0 (trun (kl key) (kas_asc p f n)) ∧
      (trun (kl key) (kas_asc p f n) = n → 0 < f → key (p.getD n 0) < key (p.getD (n - 1) 0))
  | 0, n, _, h, _ => ⟨Nat.le_refl _, Nat.le_refl _, h, fun _ q => absurd q (Nat.lt_irrefl _)⟩
  | f + 1, n, h1, h, hd => by
    show n ≤ trun _ (if kl key (p.getD n 0) (p.getD (n - 1) 0) = true then KasT.ret n else kas_asc p f (n + 1)) ∧ trun _ (if kl key (p.getD n 0) (p.getD (n - 1) 0) = true then KasT.ret n else kas_asc p f (n + 1)) ≤ n + (f + 1) ∧ AscK key p 0 (trun _ (if kl key (p.getD n 0) (p.getD (n - 1) 0) = true then KasT.ret n else kas_asc p f (n + 1))) ∧
      (trun _ (if kl key (p.getD n 0) (p.getD (n - 1) 0) = true then KasT.ret n else kas_asc p f (n + 1)) = n → _ → _)
    by_cases q : kl key (p.getD n 0) (p.getD (n - 1) 0) = true
    · rw [if_pos q]
      exact ⟨Nat.le_refl _, Nat.le_add_right _ _, h, fun _ _ => of_decide_eq_true q⟩
    · rw [if_neg q]
      have q' : ¬ key (p.getD n 0) < key (p.getD (n - 1) 0) := fun z => q (decide_eq_true z)
      have hne : key (p.getD (n - 1) 0) ≠ key (p.getD n 0) := fun z => by have := hd (n - 1) n (by lia) (by lia) z; lia
      obtain ⟨a, b, c, d⟩ := asc_run p f (n + 1) (by exact Nat.succ_pos _) (h.snoc fun _ => by lia) (fun i j hi hj => hd i j (by lia) (by lia))
      exact ⟨by exact Nat.le_of_lt (by assumption), by lia, c, fun z => by (exfalso; lia)⟩
/- descending at the first n places -/
noncomputable def DescK (key : Nat → Nat) (p : Array Nat) (n : Nat) : Prop := ∀ i j, i < j → j < n → key (p.getD j 0) < key (p.getD i 0)
theorem DescK.snoc {p : Array Nat} {n : Nat} (h : DescK key p n) (hn : 0 < n → key (p.getD n 0) < key (p.getD (n - 1) 0)) : DescK key p (n + 1) := fun i j hij hj => by
  rcases Nat.lt_succ_iff_lt_or_eq.mp hj with q | q
  · exact h i j hij q
  · subst q
    have h1 := hn (by lia)
    by_cases e : i = j - 1
    · rw [e]; exact h1
    · exact Nat.lt_trans h1 (h i (j - 1) (by lia) (by lia))
theorem desc_run (p : Array Nat) : ∀ (f n : Nat), 1 ≤ n → DescK key p n → (∀ i j, i < n + f → j < n + f → key (p.getD i 0) = key (p.getD j 0) → i = j) →
    ∃ m, trun (kl key) (kas_desc f p n 0) = (p, m, 0) ∧ n ≤ m ∧ m ≤ n + f ∧ DescK key p m
  | 0, n, _, h, _ => ⟨n, rfl, Nat.le_refl _, Nat.le_refl _, h⟩
  | f + 1, n, h1, h, hd => by
    show ∃ m, trun _ (if kl key (p.getD n 0) (p.getD (n - 1) 0) = true then (if 0 > 0 then kas_desc f (kas_rev p (n - (0 + 1)) n) (n + 1) 0 else kas_desc f p (n + 1) 0)
      else KasT.ask (p.getD (n - 1) 0) (p.getD n 0) fun d => if d = true then .ret (p, n, 0) else kas_desc f p (n + 1) (0 + 1)) = (p, m, 0) ∧ _
    by_cases q : kl key (p.getD n 0) (p.getD (n - 1) 0) = true
    · rw [if_pos q, if_neg (Nat.lt_irrefl 0)]
      obtain ⟨m, e, a, b, c⟩ := desc_run p f (n + 1) (by exact Nat.succ_pos _) (h.snoc fun _ => of_decide_eq_true q) (fun i j hi hj => hd i j (by lia) (by lia))
      exact ⟨m, e, by exact Nat.le_of_lt (by assumption), by lia, c⟩
    · rw [if_neg q]
      have q' : ¬ key (p.getD n 0) < key (p.getD (n - 1) 0) := fun z => q (decide_eq_true z)
      have hne : key (p.getD (n - 1) 0) ≠ key (p.getD n 0) := fun z => by have := hd (n - 1) n (by lia) (by lia) z; lia
      have q2 : kl key (p.getD (n - 1) 0) (p.getD n 0) = true := decide_eq_true (by lia)
      show ∃ m, trun _ (if kl key (p.getD (n - 1) 0) (p.getD n 0) = true then KasT.ret (p, n, 0) else kas_desc f p (n + 1) (0 + 1)) = (p, m, 0) ∧ _
      rw [if_pos q2]
      exact ⟨n, rfl, Nat.le_refl _, by exact Nat.le_add_right _ _, h⟩
theorem getD_of_get? {p q : Array Nat} {i j : Nat} (h : p[i]? = q[j]?) : p.getD i 0 = q.getD j 0 := by
  rw [Array.getD_eq_getD_getElem?, Array.getD_eq_getD_getElem?, h]
/- distinct keys at the first n places -/
noncomputable def Dis (key : Nat → Nat) (p : Array Nat) (n : Nat) : Prop := ∀ i j, i < n → j < n → key (p.getD i 0) = key (p.getD j 0) → i = j
theorem rev_get {p : Array Nat} {m : Nat} (hm : m ≤ p.size) (k : Nat) : (kas_rev p 0 m).getD k 0 = p.getD (if k < m then m - 1 - k else k) 0 := by
  refine getD_of_get? ?_
  unfold kas_rev
  rw [getElem?_mirror_all hm k]
  by_cases h : k < m
  · rw [if_pos ⟨Nat.zero_le _, h⟩, if_pos h]; congr 1; lia
  · rw [if_neg (by lia), if_neg h]
theorem rev_lt {m n i : Nat} (hmn : m ≤ n) (hi : i < n) : (if i < m then m - 1 - i else i) < n := by split <;> omega
theorem rev_inj {m i j : Nat} (e : (if i < m then m - 1 - i else i) = if j < m then m - 1 - j else j) : i = j := by split at e <;> split at e <;> omega
theorem rev_dis {p : Array Nat} {m n : Nat} (hm : m ≤ p.size) (hmn : m ≤ n) (h : Dis key p n) : Dis key (kas_rev p 0 m) n := fun i j hi hj e => by
  rw [rev_get hm, rev_get hm] at e
  exact rev_inj (h _ _ (rev_lt hmn hi) (rev_lt hmn hj) e)
theorem count_run {n : Nat} {p : Array Nat} (hn : 2 ≤ n) (hz : p.size = n) (hd : Dis key p n) :
    ∃ m p', trun (kl key) (kas_count n p) = (m, p') ∧ 1 ≤ m ∧ m ≤ n ∧ p'.Perm p ∧ AscK key p' 0 m := by
  unfold kas_count
  rw [trun_bind]
  obtain ⟨a, b, c, d⟩ := asc_run (key := key) p (n - 1) 1 (Nat.le_refl _) (fun i j _ h h' => by (exfalso; lia)) (fun i j hi hj => hd i j (by lia) (by lia))
  generalize trun (kl key) (kas_asc p (n - 1) 1) = m at a b c d
  by_cases h1 : m = n
  · subst h1
    rw [if_pos (beq_self_eq_true _)]
    exact ⟨m, p, rfl, a, Nat.le_refl _, Array.Perm.refl _, c⟩
  · rw [if_neg (by simpa using h1)]
    by_cases h2 : m > 1
    · rw [if_pos h2]
      have q : kl key (p.getD 0 0) (p.getD (m - 1) 0) = true := decide_eq_true (c 0 (m - 1) (Nat.le_refl _) (by lia) (by lia))
      show ∃ m' p', trun _ (if kl key (p.getD 0 0) (p.getD (m - 1) 0) = true then KasT.ret (m, p) else _) = (m', p') ∧ _
      rw [if_pos q]
      exact ⟨m, p, rfl, a, by lia, Array.Perm.refl _, c⟩
    · rw [if_neg h2]
      have hm : m = 1 := by lia
      subst hm
      have d' := d rfl (by lia)
      unfold kas_descPart
      rw [trun_bind]
      obtain ⟨k, e, k1, k2, k3⟩ := desc_run (key := key) p (n - (1 + 1)) (1 + 1) (by exact Nat.succ_pos _) (DescK.snoc (fun i j _ _ => by (exfalso; lia)) fun _ => d') (fun i j hi hj => hd i j (by lia) (by lia))
      rw [e]
      rw [if_neg (Nat.lt_irrefl 0)]
      unfold kas_tail3
      rw [trun_bind]
      have hk : k ≤ p.size := by lia
      obtain ⟨a', b', c', _⟩ := asc_run (key := key) (kas_rev p 0 k) (n - k) k (by exact Nat.lt_of_succ_lt (by assumption)) (fun i j _ h h' => by
        rw [rev_get hk, rev_get hk, if_pos (by exact Nat.lt_trans (by assumption) (by assumption)), if_pos h']
        exact k3 _ _ (by lia) (by lia)) (fun i j hi hj => rev_dis hk (by lia : k ≤ n) hd i j (by lia) (by lia))
      exact ⟨_, _, rfl, Nat.le_trans (by exact Nat.lt_of_succ_lt (by assumption)) a', Nat.le_trans b' (by lia), mirror_perm _ _ _ _, c'⟩
theorem place_run (p : Array Nat) (k : Nat) (hd : Dis key p (k + 1)) (ha : AscK key p 0 k) : ∀ (f l r : Nat), r - l ≤ f → l ≤ r → r ≤ k → (∀ i, i < l → key (p.getD i 0) < key (p.getD k 0)) → (∀ i, r ≤ i → i < k → key (p.getD k 0) < key (p.getD i 0)) →
    trun (kl key) (kas_place p k f l r) ≤ k ∧ (∀ i, i < trun (kl key) (kas_place p k f l r) → key (p.getD i 0) < key (p.getD k 0)) ∧ (∀ i, trun (kl key) (kas_place p k f l r) ≤ i → i < k → key (p.getD k 0) < key (p.getD i 0))
  | 0, l, r, hf, hl, hr, h1, h2 => ⟨by show l ≤ k; exact Nat.le_trans (by assumption) (by assumption), h1, fun i hi hk => h2 i (by change l ≤ i at hi; lia) hk⟩
  | f + 1, l, r, hf, hl, hr, h1, h2 => by
    by_cases q : l ≥ r
    · have e : kas_place p k (f + 1) l r = .ret l := if_pos q
      rw [e]
      exact ⟨by show l ≤ k; exact Nat.le_trans (by assumption) (by assumption), h1, fun i hi hk => h2 i (by change l ≤ i at hi; exact Nat.le_trans (by assumption) (by assumption)) hk⟩
    · have e : trun (kl key) (kas_place p k (f + 1) l r) = trun (kl key) (if kl key (p.getD k 0) (p.getD ((l + r) / 2) 0) = true then kas_place p k f l ((l + r) / 2) else kas_place p k f ((l + r) / 2 + 1) r) := by
        have e : kas_place p k (f + 1) l r = .ask (p.getD k 0) (p.getD ((l + r) / 2) 0) fun c => if c = true then kas_place p k f l ((l + r) / 2) else kas_place p k f ((l + r) / 2 + 1) r := if_neg q
        rw [e]; rfl
      rw [e]
      have lm : l ≤ (l + r) / 2 := by lia
      have mr : (l + r) / 2 < r := by lia
      clear e
      generalize (l + r) / 2 = mid at *
      have hm : mid < k := Nat.lt_of_lt_of_le mr hr
      by_cases c : kl key (p.getD k 0) (p.getD mid 0) = true
      · rw [if_pos c]
        have c' : key (p.getD k 0) < key (p.getD mid 0) := of_decide_eq_true c
        refine place_run p k hd ha f l mid (by lia) (by omega) (by exact Nat.le_of_lt (by assumption)) h1 fun i hi hk => ?_
        rcases Nat.eq_or_lt_of_le hi with z | z
        · rw [← z]; exact c'
        · exact Nat.lt_trans c' (ha _ _ (Nat.zero_le _) z hk)
      · rw [if_neg c]
        have c' : ¬ key (p.getD k 0) < key (p.getD mid 0) := fun z => c (decide_eq_true z)
        have hne : key (p.getD mid 0) ≠ key (p.getD k 0) := fun z => by have := hd _ _ (by exact Nat.lt_succ_of_lt (by assumption)) (by exact Nat.lt_succ_self _) z; lia
        refine place_run p k hd ha f (mid + 1) r (by lia) (by assumption) hr (fun i hi => ?_) h2
        rcases Nat.lt_succ_iff_lt_or_eq.mp hi with z | z
        · exact Nat.lt_trans (ha _ _ (Nat.zero_le _) z hm) (by lia)
        · rw [z]; lia
theorem bub_get {p : Array Nat} {k l : Nat} (hk : k < p.size) (hl : l ≤ k) (i : Nat) : (bubble p k (k - l)).getD i 0 = p.getD (if i = l then k else if l < i ∧ i ≤ k then i - 1 else i) 0 := by
  refine getD_of_get? ?_
  rw [getElem?_bubble hk (k - l) (by lia) i]
  rw [show k - (k - l) = l by lia]
  split
  · rfl
  · split <;> rfl
theorem bub_lt {k l n i : Nat} (hl : l ≤ k) (hn : k < n) (hi : i < n) : (if i = l then k else if l < i ∧ i ≤ k then i - 1 else i) < n := by split <;> (try split) <;> omega
theorem bub_inj {k l i j : Nat} (hl : l ≤ k) (e : (if i = l then k else if l < i ∧ i ≤ k then i - 1 else i) = if j = l then k else if l < j ∧ j ≤ k then j - 1 else j) : i = j := by
  split at e <;> split at e <;> (try split at e) <;> (try split at e) <;> lia
theorem bub_dis {p : Array Nat} {k l n : Nat} (hk : k < p.size) (hl : l ≤ k) (hn : k < n) (h : Dis key p n) : Dis key (bubble p k (k - l)) n := fun i j hi hj e => by
  rw [bub_get hk hl, bub_get hk hl] at e
  exact bub_inj hl (h _ _ (bub_lt hl hn hi) (bub_lt hl hn hj) e)
theorem bin_run : ∀ (f : Nat) (p : Array Nat) (k : Nat), k + f = p.size → Dis key p p.size → AscK key p 0 k → (trun (kl key) (kas_bin f p k)).Perm p ∧ AscK key (trun (kl key) (kas_bin f p k)) 0 p.size
  | 0, p, k, hz, _, ha => ⟨Array.Perm.refl _, by rw [← hz]; exact ha⟩
  | f + 1, p, k, hz, hd, ha => by
    have e : trun (kl key) (kas_bin (f + 1) p k) = trun (kl key) (kas_bin f (bubble p k (k - trun (kl key) (kas_place p k k 0 k))) (k + 1)) := trun_bind _ _ _
    rw [e]
    obtain ⟨l1, l2, l3⟩ := place_run (key := key) p k (fun i j hi hj => hd i j (by lia) (by lia)) ha k 0 k (by exact Nat.le_refl _) (Nat.zero_le _) (Nat.le_refl _) (fun i hi => by (exfalso; lia)) (fun i hi hk => by (exfalso; lia))
    generalize trun (kl key) (kas_place p k k 0 k) = l at l1 l2 l3
    have hk : k < p.size := by lia
    have sz : (bubble p k (k - l)).size = p.size := bubble_size _ _ _
    obtain ⟨a, b⟩ := bin_run f (bubble p k (k - l)) (k + 1) (by lia) (by rw [sz]; exact bub_dis hk l1 hk hd) (fun i j _ hij hj => by
      rw [bub_get hk l1, bub_get hk l1]
      by_cases h1 : i = l
      · rw [if_pos h1, if_neg (by lia), if_pos (by lia)]
        exact l3 _ (by lia) (by lia)
      · rw [if_neg h1]
        by_cases h2 : j = l
        · rw [if_pos h2, if_neg (by lia)]
          exact l2 _ (by lia)
        · rw [if_neg h2]
          refine ha _ _ (Nat.zero_le _) ?_ ?_ <;> split <;> (try split) <;> lia)
    rw [sz] at b
    exact ⟨a.trans (bubble_perm _ _ _), b⟩
theorem sort_run {n : Nat} (hn : 2 ≤ n) (hd : ∀ i j, i < n → j < n → key i = key j → i = j) :
    (trun (kl key) (kas_sort n)).toList.Perm (List.range n) ∧ (trun (kl key) (kas_sort n)).toList.Pairwise fun a b => key a < key b := by
  have hz : (List.toArray (List.range n)).size = n := by simp
  have gr : ∀ i, i < n → (List.toArray (List.range n)).getD i 0 = i := fun i hi => by simp [Array.getD, hi]
  have hd0 : Dis key (List.toArray (List.range n)) n := fun i j hi hj e => by rw [gr i hi, gr j hj] at e; exact hd i j hi hj e
  suffices ∃ p, trun (kl key) (kas_sort n) = p ∧ p.Perm (List.toArray (List.range n)) ∧ AscK key p 0 n by
    obtain ⟨p, e, hp, ha⟩ := this
    rw [e]
    have sz : p.size = n := by rw [hp.size_eq, hz]
    refine ⟨by simpa using hp.toList, ?_⟩
    rw [List.pairwise_iff_getElem]
    intro i j hi hj hij
    have := ha i j (Nat.zero_le _) hij (by simpa [sz] using hj)
    simp only [Array.length_toList] at hi hj
    simpa [Array.getD, hi, hj] using this
  unfold kas_sort
  rw [trun_bind]
  obtain ⟨m, p', e, m1, m2, hp, ha⟩ := count_run (key := key) hn hz hd0
  rw [e]
  have sz : p'.size = n := by rw [hp.size_eq, hz]
  by_cases h : m < n
  · rw [if_pos h]
    rw [show max m 1 = m by lia]
    have hdp : Dis key p' p'.size := fun i j hi hj q => by
      have nd : p'.toList.Nodup := (hp.toList.nodup_iff).mpr (by simpa using List.nodup_range)
      have mem : ∀ i, i < p'.size → p'.getD i 0 < n := fun i hi => by
        have : p'.toList[i]'(by simpa using hi) ∈ List.range n := by
          have := (hp.toList.mem_iff (a := p'.toList[i]'(by simpa using hi))).mp (List.getElem_mem _)
          simpa using this
        have := List.mem_range.mp this
        simpa [Array.getD, hi] using this
      have := hd _ _ (mem i hi) (mem j hj) q
      have e1 : p'.toList[i]'(by simpa using hi) = p'.toList[j]'(by simpa using hj) := by simpa [Array.getD, hi, hj] using this
      exact (List.getElem_inj nd).mp e1
    obtain ⟨a, b⟩ := bin_run (n - m) p' m (by lia) hdp ha
    rw [sz] at b
    exact ⟨_, rfl, a.trans hp, b⟩
  · rw [if_neg h]
    have : m = n := by lia
    subst this
    exact ⟨_, rfl, hp, ha⟩
end
end Mine
end PartT1
section PartT2
open PySem PySem.W PyProof.Rows
set_option linter.unusedVariables false
namespace Mine
/- the questions are of places below n -/
noncomputable def AllA {α : Type} (n : Nat) : KasT α → (α → Prop) → Prop
  | .ret a, R => R a
  | .ask i j k, R => i < n ∧ j < n ∧ ∀ b, AllA n (k b) R
theorem AllA.mono {α : Type} {n : Nat} {R R' : α → Prop} (hr : ∀ a, R a → R' a) : ∀ {t : KasT α}, AllA n t R → AllA n t R'
  | .ret _, h => hr _ h
  | .ask _ _ k, h => ⟨h.1, h.2.1, fun b => AllA.mono hr (h.2.2 b)⟩
theorem AllA.bind {α β : Type} {n : Nat} {f : α → KasT β} {R : β → Prop} : ∀ {t : KasT α}, AllA n t (fun a => AllA n (f a) R) → AllA n (t.bind f) R
  | .ret _, h => h
  | .ask _ _ k, h => ⟨h.1, h.2.1, fun b => AllA.bind (h.2.2 b)⟩
noncomputable def Inn (n : Nat) (p : Array Nat) : Prop := 0 < n ∧ ∀ x ∈ p.toList, x < n
theorem Inn.get {n : Nat} {p : Array Nat} (h : Inn n p) (i : Nat) : p.getD i 0 < n := by
  by_cases hi : i < p.size
  · simp only [Array.getD, hi, dite_true]
    exact h.2 _ (by simp)
  · simp only [Array.getD, hi, dite_false]
    exact h.1
theorem Inn.perm {n : Nat} {p q : Array Nat} (h : Inn n p) (hp : q.Perm p) : Inn n q := ⟨h.1, fun x hx => h.2 x (hp.toList.mem_iff.mp hx)⟩
theorem asc_all {n : Nat} {p : Array Nat} (h : Inn n p) : ∀ f m, AllA n (kas_asc p f m) fun _ => True
  | 0, m => trivial
  | f + 1, m => ⟨h.get _, h.get _, fun b => by
    show AllA n (if b = true then KasT.ret m else kas_asc p f (m + 1)) _
    cases b with
    | true => rw [if_pos rfl]; trivial
    | false => rw [if_neg (by simp)]; exact asc_all h f (m + 1)⟩
theorem desc_all {n : Nat} : ∀ (f : Nat) {p : Array Nat} (h : Inn n p) (m q : Nat), AllA n (kas_desc f p m q) fun r => Inn n r.1
  | 0, p, h, m, q => h
  | f + 1, p, h, m, q => ⟨h.get _, h.get _, fun b => by
    show AllA n (if b = true then (if q > 0 then kas_desc f (kas_rev p (m - (q + 1)) m) (m + 1) 0 else kas_desc f p (m + 1) 0)
      else KasT.ask (p.getD (m - 1) 0) (p.getD m 0) fun d => if d = true then .ret (p, m, q) else kas_desc f p (m + 1) (q + 1)) _
    cases b with
    | true =>
      rw [if_pos rfl]
      split
      · exact desc_all f (h.perm (mirror_perm _ _ _ _)) _ _
      · exact desc_all f h _ _
    | false =>
      rw [if_neg (by simp)]
      refine ⟨h.get _, h.get _, fun d => ?_⟩
      show AllA n (if d = true then KasT.ret (p, m, q) else kas_desc f p (m + 1) (q + 1)) _
      cases d with
      | true => rw [if_pos rfl]; exact h
      | false => rw [if_neg (by simp)]; exact desc_all f h _ _⟩
theorem tail3_all {n : Nat} {p : Array Nat} (h : Inn n p) (m k : Nat) : AllA n (kas_tail3 m k p) fun r => Inn n r.2 :=
  AllA.bind (AllA.mono (fun _ _ => show Inn n _ from h.perm (mirror_perm _ _ _ _)) (asc_all (h.perm (mirror_perm _ _ _ _)) _ _))
theorem descPart_all {n : Nat} {p : Array Nat} (h : Inn n p) (m k : Nat) : AllA n (kas_descPart m k p) fun r => Inn n r.2 :=
  AllA.bind (AllA.mono (fun r hr => by
    show AllA n (if r.2.2 > 0 then kas_tail3 r.2.1 k (kas_rev r.1 (r.2.1 - (r.2.2 + 1)) r.2.1) else kas_tail3 r.2.1 k r.1) _
    split
    · exact tail3_all (hr.perm (mirror_perm _ _ _ _)) _ _
    · exact tail3_all hr _ _) (desc_all _ h _ _))
theorem count_all {n : Nat} {p : Array Nat} (h : Inn n p) (k : Nat) : AllA n (kas_count k p) fun r => Inn n r.2 :=
  AllA.bind (AllA.mono (fun m _ => by
    show AllA n (if (m == k) = true then .ret (m, p) else if m > 1 then .ask (p.getD 0 0) (p.getD (m - 1) 0) fun c => if c = true then .ret (m, p) else kas_descPart m k (kas_rev p 0 m)
    else kas_descPart m k p) _
    split
    · exact h
    · split
      · refine ⟨h.get _, h.get _, fun b => ?_⟩
        show AllA n (if b = true then .ret (m, p) else kas_descPart m k (kas_rev p 0 m)) _
        cases b with
        | true => rw [if_pos rfl]; exact h
        | false => rw [if_neg (by simp)]; exact descPart_all (h.perm (mirror_perm _ _ _ _)) _ _
      · exact descPart_all h _ _) (asc_all h _ _))
theorem place_all {n : Nat} {p : Array Nat} (h : Inn n p) (k : Nat) : ∀ f l r, AllA n (kas_place p k f l r) fun _ => True
  | 0, l, r => trivial
  | f + 1, l, r => by
    show AllA n (if l ≥ r then .ret l else .ask (p.getD k 0) (p.getD ((l + r) / 2) 0) fun c => if c = true then kas_place p k f l ((l + r) / 2) else kas_place p k f ((l + r) / 2 + 1) r) _
    split
    · trivial
    · refine ⟨h.get _, h.get _, fun b => ?_⟩
      show AllA n (if b = true then kas_place p k f l ((l + r) / 2) else kas_place p k f ((l + r) / 2 + 1) r) _
      split
      · exact place_all h k f _ _
      · exact place_all h k f _ _
theorem bin_all {n : Nat} : ∀ (f : Nat) {p : Array Nat} (h : Inn n p) (k : Nat), AllA n (kas_bin f p k) fun _ => True
  | 0, p, h, k => trivial
  | f + 1, p, h, k => AllA.bind (AllA.mono (fun l _ => bin_all f (h.perm (bubble_perm _ _ _)) (k + 1)) (place_all h k _ _ _))
theorem sort_all {n : Nat} (h : 0 < n) : AllA n (kas_sort n) fun _ => True :=
  AllA.bind (AllA.mono (fun r hr => by
    show AllA n (if r.1 < n then kas_bin (n - max r.1 1) r.2 (max r.1 1) else .ret r.2) _
    split
    · exact bin_all _ hr _
    · trivial) (count_all ⟨h, fun x hx => by simpa using hx⟩ n))
theorem kasWp_run {α : Type} {n : Nat} {lt : Nat → Nat → Bool} {cmp : Nat → Nat → (Bool → Shared → Prop) → Shared → Prop} {Q : α → Shared → Prop} {s : Shared} (hc : ∀ i j (C : Bool → Shared → Prop), i < n → j < n → C (lt i j) s → cmp i j C s) :
    ∀ {t : KasT α}, AllA n t (fun _ => True) → Q (trun lt t) s → t.kasWp cmp Q s
  | .ret _, _, h => h
  | .ask i j k, ha, h => hc i j _ ha.1 ha.2.1 (kasWp_run hc (ha.2.2 _) h)

section
open PySem.SeqAt
variable {prog : Program} {w : World} {c : Cx} {env : Env} {m : LM} {N : NM} {P : V → LM → NM → Prop}
theorem St.put {τ : TM} {tk : Nat} {h : Heap} {a : Addr} {o : AO} {k : Obj} (S : St prog w c τ tk h m N) (f2 : c.B a = none) (f3 : a ≠ c.L) (e : h.get? a = some k) (is : o.is prog w τ k) : St prog w c τ tk h m (N.put a o) := by
  refine ⟨S.ns, S.keep, S.offL, fun b x hb => ?_, S.fz, S.tok, S.pos⟩
  unfold NM.put at hb
  by_cases hba : b = a
  · rw [if_pos hba] at hb; cases hb; subst hba; exact ⟨f3, f2, k, e, is⟩
  · rw [if_neg hba] at hb; exact S.obj b x hb
/- one list before another, as the sort asks it -/
theorem one_lt {τ : TM} {A : Around} {h : Heap} {tk : Nat} {a b : Addr} {ds es : List V} {Q : Bool → Shared → Prop} {E : Value → Shared → Prop} (hB : Bs w c.B) (hu : A.units < cLine) (ha : Rd c N a (.list ds)) (hb : Rd c N b (.list es)) (hl : ds.length = es.length) (hc : CmpL ds es) (S : St prog w c τ tk h m N)
    (hq : Q (lexL ds es) (c.s h tk)) : wpAny (model prog w) A (keyLt' oneType' (.ref a) (.ref b)) Q E (c.s h tk) := by
  refine hideG fun G9 kG9 => ?_
  obtain ⟨o1, e1, is1⟩ := S.rd ha
  obtain ⟨o2, e2, is2⟩ := S.rd hb
  obtain ⟨_, _, _, _, _, _, hn⟩ := hB.T h S.keep
  obtain ⟨vs, n1, rfl, v1⟩ := is1
  obtain ⟨us, n2, rfl, v2⟩ := is2
  refine kG9 ?_
  clear kG9
  rw [keyLt'_oneType, oneLt'_eq]
  simp only [if_true]
  refine wpAny_bind (wpAny_cRoomFor hu ?_)
  refine wpAny_bind (wpAny_callSpecialIfBound?_slot (T := "list") (s := c.s h tk) ⟨_, e1, rfl⟩ F.slot_list_lt ?_)
  refine call_meets (s := c.s h tk) F.slot_list_lt ⟨_, e1, rfl⟩ F.entry_list_lt (F.args_list_lt_2 _ _) (list_ltAt a b _ _ n1 n2 none none #[] #[] (by simp [v1.length, v2.length, hl]) (eAt ds es) (lAt ds es)) ⟨e1, e2, fun j h1 h2 hp => (eq_arr (c := c) hn v1 v2 hc j h1 h2 hp).1, fun j h1 h2 hp _ => (eq_arr (c := c) hn v1 v2 hc j h1 h2 hp).2, ?_⟩
  show wants _ _ _ _
  rw [List.size_toArray, v1.length, lexAt_eq ds es hl]
  exact wpAny_truthy_bool hq
theorem typeOf_list {h : Heap} {a : Addr} {o : Obj} (e : h.get? a = some o) (hc : o.cls = .type "list") : Looks (model prog w) h (typeOf (.ref a)) (.type "list") := by
  have := (Looks.ld (M := model prog w) (part := none) e).andThen (f := fun o => pure o.cls) (b := o.cls) .now
  rw [hc] at this
  exact this
theorem VS.refs {τ : TM} : ∀ {rs : List Addr} {vs : List Value}, VS τ (rs.map V.ref) vs → vs = rs.map Value.ref
  | [], [], _ => rfl
  | _ :: _, _ :: _, h => by rw [h.1, VS.refs h.2]; rfl
  | [], _ :: _, h => h.elim
  | _ :: _, [], h => h.elim
theorem VS.mapRef {τ : TM} (f : Nat → Addr) : ∀ l : List Nat, VS τ (l.map fun i => V.ref (f i)) (l.map fun i => Value.ref (f i))
  | [] => trivial
  | i :: l => ⟨rfl, VS.mapRef f l⟩
/- sorted, of a list of lists -/
theorem Ca.sorted {a : Addr} {rs : List Addr} {cs : Nat → List V} {key : Nat → Nat} (F : Fit w c 1) (hr : Rd c N a (.list (rs.map .ref))) (hel : ∀ i r, rs[i]? = some r → Rd c N r (.list (cs i)))
    (hlen : ∀ i j, i < rs.length → j < rs.length → (cs i).length = (cs j).length) (hcmp : ∀ i j, i < rs.length → j < rs.length → CmpL (cs i) (cs j)) (hlt : ∀ i j, i < rs.length → j < rs.length → lexL (cs i) (cs j) = decide (key i < key j))
    (hd : ∀ i j, i < rs.length → j < rs.length → key i = key j → i = j) (h2 : 2 ≤ rs.length) (h64 : rs.length < 64)
    (h : ∀ b, N b = none → ∀ p : List Nat, p.Perm (List.range rs.length) → p.Pairwise (fun i j => key i < key j) → P (.ref b) m (N.put b (.list (p.map fun i => .ref (rs.getD i 0))))) : Ca prog w c (.bi "sorted") [.ref a] m N P := by
  rintro τ _ _ rfl hvs
  refine ⟨fun H tk S => ?_⟩
  refine hideG fun G9 kG9 => ?_
  obtain ⟨_, rfl, rfl⟩ := hvs.one
  obtain ⟨o, e, is⟩ := S.rd hr
  obtain ⟨vs, hl, hv, _⟩ := isList_of e is
  have ev : vs = rs.map Value.ref := VS.refs hv
  subst ev
  have hvl : (rs.map Value.ref).length = rs.length := by simp
  obtain ⟨mm, hns, hm⟩ := S.ns
  refine kG9 ?_
  clear kG9
  let news : List (Addr × Obj) := (List.range H.objs.size).filterMap fun b => if b = c.L then none else (H.get? b).map fun o => (b, o)
  have hnews : ∀ b o, (b, o) ∈ news ↔ b ≠ c.L ∧ H.get? b = some o := fun b o => by
    simp only [news, List.mem_filterMap, List.mem_range]
    constructor
    · intro I9
      refine hideG fun G9 kG9 => ?_
      obtain ⟨x, hx, e⟩ := I9
      refine kG9 ?_
      clear kG9
      split at e
      · cases e
      · rename_i hne
        cases q : H.get? x with
        | none => rw [q] at e; cases e
        | some o' =>
          rw [q] at e
          simp only [Option.map_some, Option.some.injEq, Prod.mk.injEq] at e
          obtain ⟨rfl, rfl⟩ := e
          exact ⟨hne, q⟩
    · rintro ⟨hne, q⟩
      exact ⟨b, Heap.lt_size q, by rw [if_neg hne, q]; rfl⟩
  have none0 : ∀ b, Heap.get? ⟨#[], {}⟩ b = none := fun b => by simp [Heap.get?]
  have F0 : Fr ⟨#[], {}⟩ c.L H mm := ⟨hns, (fun b o e => by rw [none0] at e; cases e), Nat.zero_le _⟩
  have N0 : News ⟨#[], {}⟩ c.L H news := fun p hp => by
    have := (hnews p.1 p.2).mp hp
    exact ⟨this.2, this.1, none0 _⟩
  have later : ∀ h' news', Fr ⟨#[], {}⟩ c.L h' mm → News ⟨#[], {}⟩ c.L h' news' → (∀ p ∈ news, p ∈ news') → St prog w c τ tk h' m N := fun h' news' F' N' hsub => by
    have keep : ∀ b o, b ≠ c.L → H.get? b = some o → h'.get? b = some o := fun b o hb e => (N' (b, o) (hsub _ ((hnews b o).mpr ⟨hb, e⟩))).1
    refine ⟨⟨mm, F'.ns, hm⟩, fun b o e => keep b o (fun q => by rw [q, S.offL] at e; cases e) (S.keep b o e), S.offL, fun b o e => ?_, S.fz, S.tok, S.pos⟩
    refine hideG fun G9 kG9 => ?_
    obtain ⟨x, y, k, z, t⟩ := S.obj b o e
    refine kG9 ?_
    clear kG9
    exact ⟨x, y, k, keep b k x z, t⟩
  have hu : c.A.in1.in1.units < cLine := by have := F.u; show c.A.units + 1 + 1 < cLine; lia
  refine kas_sorted (s := c.s H tk) (T := .type "list") F0 N0 hl (by rw [hvl]; exact h2) (by rw [hvl]; exact h64) (fun h' F' N' v hv => ?_) (by decide) fun D e1 h' F' N' hD => ?_
  · refine hideG fun G9 kG9 => ?_
    obtain ⟨r, hr, rfl⟩ := List.mem_map.mp hv
    refine kG9 ?_
    clear kG9
    obtain ⟨i, hi⟩ := List.getElem?_of_mem hr
    obtain ⟨k, e1, vs, n, rfl, _⟩ := (later h' _ F' N' fun p hp => hp).rd (hel i r hi)
    exact typeOf_list e1 rfl
  · have S' := later h' _ F' N' fun p hp => List.mem_cons_of_mem _ hp
    have gv : ∀ i, i < rs.length → (rs.map Value.ref).getD i Value.none = .ref (rs.getD i 0) := fun i hi => by simp [List.getD_eq_getElem?_getD, hi]
    have gr : ∀ i, i < rs.length → Rd c N (rs.getD i 0) (.list (cs i)) := fun i hi => hel i _ (by simp [List.getD_eq_getElem?_getD, hi])
    rw [hvl]
    refine kasWp_run (n := rs.length) (lt := kl key) (fun i j C hi hj hC => ?_) (sort_all (by lia)) ?_
    · show wpAny _ _ (keyLt' _ _ _) _ _ _
      rw [gv i hi, gv j hj]
      refine one_lt (h := h') (tk := tk) F.B hu (gr i hi) (gr j hj) (hlen i j hi hj) (hcmp i j hi hj) S' ?_
      rw [hlt i j hi hj]; exact hC
    · obtain ⟨hp, hs⟩ := sort_run (key := key) (n := rs.length) h2 hd
      have nD := N' (D, seqObj "list" #[] e1) (List.mem_cons_self)
      refine KasFin.intro F' N' (UpdF.head fun q hq => Nat.ne_of_lt (hD q hq)) fun h'' c'' F'' N'' => ?_
      have S'' := later h'' _ F'' N'' fun p hp => List.mem_cons_of_mem _ hp
      have nD' := N'' (D, _) (List.mem_cons_self)
      have notIn : ∀ o, H.get? D ≠ some o := fun o e => by
        have := hD (D, o) ((hnews D o).mpr ⟨nD.2.1, e⟩)
        exact Nat.lt_irrefl _ this
      have hND : N D = none := by
        cases q : N D with
        | none => rfl
        | some o => obtain ⟨k, z, _⟩ := S.get q; exact absurd z (notIn k)
      have hBD : c.B D = none := by
        cases q : c.B D with
        | none => rfl
        | some o => exact absurd (S.keep D o q) (notIn o)
      have eout : List.map (fun i => (rs.map Value.ref).getD i Value.none) (trun (kl key) (kas_sort rs.length)).toList = (trun (kl key) (kas_sort rs.length)).toList.map fun i => Value.ref (rs.getD i 0) :=
        List.map_congr_left fun i hi => gv i (List.mem_range.mp (hp.mem_iff.mp hi))
      refine Out.val (d := .ref D) (S''.put (o := .list _) hBD nD.2.1 nD'.1 ⟨_, c'', rfl, ?_⟩) rfl (h D hND _ hp hs)
      rw [eout]
      exact VS.mapRef _ _
end
end Mine
end PartT2
section PartT3
open PySem PySem.W PyProof.Rows
set_option linter.unusedVariables false
namespace Mine
/- an iterator that walks n turns, each storing the values dss i under the names -/
structure Wk (prog : Program) (w : World) (A : Around) (τ : TM) (tgt : Expr) (it : Value) (fp wr : List Addr) (n : Nat) (Si : Nat → Heap → Prop) (names : List Str) (dss : Nat → List V) : Prop where
  sub : ∀ b ∈ wr, b ∈ fp
  frame : ∀ i h h', Si i h → (∀ b ∈ fp, ∀ o, h.get? b = some o → h'.get? b = some o) → Si i h'
  has : ∀ i h, Si i h → ∀ a ∈ fp, ∃ o, h.get? a = some o
  next : ∀ (i : Nat) (s : Shared) (Q : Option Value → Shared → Prop) (E : Value → Shared → Prop), i < n → Si i s.heap →
    (∀ v h1 tk1, s.toks ≤ tk1 → (∀ (s' : Shared) (Q' : Unit → Shared → Prop) (E' : Value → Shared → Prop), s' = { s with heap := h1, toks := tk1 } →
        (∀ h2, (∀ b o, b ∉ wr → s.heap.get? b = some o → h2.get? b = some o) → Si (i + 1) h2 →
          (∀ (c' : Cx) (env' : Env) (τ' : TM) (m : LM) (N : NM) (P : LM → NM → Prop) tk', c'.A = A → τ.le τ' → St prog w c' τ' tk' h2 m N → SnL prog w c' env' names (dss i) m N P →
            wpAny (model prog w) A (assign tgt env' v) (fun _ s'' => Out prog w c' τ' (fun _ => P) s'') (fun _ _ => False) (c'.s h2 tk')) → Q' () { s' with heap := h2 }) →
        wpAny (model prog w) A (letOwnedTupleGo tgt it v) Q' E' s') → Q (some v) { s with heap := h1, toks := tk1 }) →
    wpAny (model prog w) A (pyNext it) Q E s
  done : ∀ (s : Shared) (Q : Option Value → Shared → Prop) (E : Value → Shared → Prop), Si n s.heap →
    (∀ h' tk, s.toks ≤ tk → (∀ b o, b ∉ wr → s.heap.get? b = some o → h'.get? b = some o) → Q none { s with heap := h', toks := tk }) → wpAny (model prog w) A (pyNext it) Q E s
  self : ∀ i (s : Shared) (Q : Value → Shared → Prop) (E : Value → Shared → Prop), Si i s.heap → Q it s → wpAny (model prog w) A (pyIter it) Q E s

section
variable {prog : Program} {w : World} {c : Cx} {env : Env} {m : LM} {N : NM} {Pn Pb Pc : LM → NM → Prop} {Pr : V → LM → NM → Prop} {P : V → LM → NM → Prop}
/- the tests of a clause: none, or one -/
noncomputable def Tes (prog : Program) (w : World) (c : Cx) (env : Env) : List Expr → LM → NM → (Bool → LM → NM → Prop) → Prop
  | [], m, N, P => P true m N
  | [e], m, N, P => Te prog w c env e m N P
  | _, _, _, _ => False
theorem Tes.run {τ : TM} {P : Bool → LM → NM → Prop} {h : Heap} {tk : Nat} : ∀ {ifs : List Expr}, Tes prog w c env ifs m N P → St prog w c τ tk h m N →
    wpAny (model prog w) c.A (forIn ifs true fun c r => if r = true then do let ok ← isTrue c env (eval c env); pure (ForInStep.yield ok) else pure (ForInStep.yield r)) (fun b s => Out prog w c τ (fun _ => P b) s) (fun _ _ => False) (c.s h tk)
  | [], hp, S => wpAny_tests_nil (Out.here S hp)
  | [e], hp, S => wpAny_tests_one ((hp τ).run h tk S)
  | _ :: _ :: _, hp, _ => hp.elim
theorem compTurn_any (elt target iter : Expr) (ifs : List Expr) (scope : Scope) (pos : Pos) (it acc : Value) (env : Env) :
    compTurn (.ListComp elt [⟨target, iter, ifs, 0⟩] scope pos) 0 it acc env = (do
      standAt iter.pos
      match ← pyNext it with
      | none => pure (.done .next)
      | some v =>
        letOwnedTupleGo target it v
        assign target env v
        let ok ← forIn ifs true fun c r => if r = true then do let ok ← isTrue c env (eval c env); pure (ForInStep.yield ok) else pure (ForInStep.yield r)
        if ok then
          (do let _ ← call (.builtin "list.append") [acc, ← eval elt env])
        again (.compLoop (.ListComp elt [⟨target, iter, ifs, 0⟩] scope pos) 0 it acc env)) := by rfl
inductive CmpI (prog : Program) (w : World) (c : Cx) (τ : TM) (n : Nat) (fp : List Addr) (D : Addr) (Si : Nat → Heap → Prop) (J : Nat → List V → NM → Prop) (q : Nat) (s : Shared) : Prop where
  | mk (i : Nat) (τ1 : TM) (h : Heap) (tk : Nat) (m : LM) (N : NM) (acc : List V) (eq : q = n + 1 - i) (hi : i ≤ n) (es : s = c.s h tk) (l1 : τ.le τ1) (S : St prog w c τ1 tk h m N) (hN : ∀ a ∈ fp, N a = none) (hND : N D = none) (hD : ∃ k, h.get? D = some k ∧ (AO.list acc).is prog w τ1 k) (hacc : acc.length ≤ i) (hsi : Si i h) (hj : J i acc N)
inductive CmpO (prog : Program) (w : World) (c : Cx) (τ : TM) (n : Nat) (fp : List Addr) (D : Addr) (J : Nat → List V → NM → Prop) (s' : Shared) : Prop where
  | mk (τ' : TM) (h' : Heap) (tk' : Nat) (m' : LM) (N' : NM) (acc : List V) (es : s' = c.s h' tk') (l : τ.le τ') (S : St prog w c τ' tk' h' m' N') (nf : ∀ a ∈ fp, N' a = none) (nD : N' D = none) (hD : ∃ k, h'.get? D = some k ∧ (AO.list acc).is prog w τ' k) (hacc : acc.length ≤ n) (hj : J n acc N')
theorem comp_loop {env1 : Env} {τ0 : TM} {elt tgt iter : Expr} {ifs : List Expr} {scope : Scope} {pos : Pos} {it : Value} {fp wr : List Addr} {n : Nat} {Si : Nat → Heap → Prop} {names : List Str} {dss : Nat → List V}
    (W : Wk prog w c.A τ0 tgt it fp wr n Si names dss) {D : Addr} (J : Nat → List V → NM → Prop) (hz : n ≤ 1000) (hLf : c.L ∉ fp) (hDf : D ∉ fp) (hwr : ∀ a ∈ wr, c.B a = none) (hDL : D ≠ c.L) (hDB : c.B D = none)
    (turn : ∀ c' i acc N', Ext c c' → i < n → J i acc N' → SnL prog w c' env1 names (dss i) (fun _ => none) N' (fun m2 N2 => Tes prog w c' env1 ifs m2 N2 (fun b m3 N3 => (b = true → Ev prog w c' env1 elt m3 N3 (fun d _ N4 => J (i + 1) (acc ++ [d]) N4)) ∧ (b = false → J (i + 1) acc N3))))
    {τ : TM} {h : Heap} {tk : Nat} (S : St prog w c τ tk h m N) (hτ : τ0.le τ) (hN : ∀ a ∈ fp, N a = none) (hND : N D = none) (hD : ∃ k, h.get? D = some k ∧ (AO.list []).is prog w τ k) (hsi : Si 0 h) (hj : J 0 [] N) :
    codeAny (model prog w) c.A (.compLoop (.ListComp elt [⟨tgt, iter, ifs, 0⟩] scope pos) 0 it (.ref D) env1) (fun r s' => match r with
      | .ok _ => CmpO prog w c τ n fp D J s'
      | .error _ => False) (c.s h tk) := by
  refine codeAny_loop rfl (CmpI prog w c τ n fp D Si J) (fun q s hq => ?_) (n + 1)
    ⟨0, τ, h, tk, m, N, [], rfl, Nat.zero_le _, rfl, .refl τ, S, hN, hND, hD, Nat.le_refl _, hsi, hj⟩
  refine hideG fun G9 kG9 => ?_
  obtain ⟨i, τ1, h, tk, m, N, acc, rfl, hi, rfl, l1, S, hN, hND, hD, hacc, hsi, hj⟩ := hq
  refine kG9 ?_
  clear kG9
  have hu : c.A.under (.compLoop (.ListComp elt [⟨tgt, iter, ifs, 0⟩] scope pos) 0 it (.ref D) env1) = c.A := Around.under_of_weight rfl rfl
  rw [hu]
  show wpAny _ c.A ((compTurn (.ListComp elt [⟨tgt, iter, ifs, 0⟩] scope pos) 0 it (.ref D) env1).onRaise (fun x => do noteFrame x env1; theTreesLotGoes x)) _ _ _
  refine wpAny_noted ?_
  rw [compTurn_any]
  refine wpAny_bind (wpAny_standAt (wpAny_bind ?_))
  have hDw : D ∉ wr := fun q => hDf (W.sub _ q)
  by_cases hlt : i < n
  · refine W.next i (c.s h tk) _ _ hlt hsi fun v h1 tk1 hle go => ?_
    dsimp only
    refine wpAny_bind (go _ _ _ rfl fun h2 hk2 hsi2 asg => ?_)
    have S2 : St prog w c τ1 tk1 h2 m N := (S.grow' hk2 (fun q => hLf (W.sub _ q)) hwr fun a q => hN a (W.sub _ q)).later hle
    have hfL : c.L ∉ D :: fp := fun q => (List.mem_cons.mp q).elim (fun e => hDL e.symm) hLf
    have hfN : ∀ a ∈ D :: fp, N a = none := fun a q => (List.mem_cons.mp q).elim (fun e => e ▸ hND) (hN a)
    have S2' := S2.with (c := c) hfL hfN
    have X : Ext c (c.with h2 (D :: fp)) := Cx.with_ext fun a ha o e => S2.keep a o e
    have S2w : St prog w (c.with h2 (D :: fp)) τ1 tk1 h2 (fun _ => none) N := S2'.weak (fun _ _ e => by cases e) fun _ _ e => e
    obtain ⟨kD, hD1, hD2⟩ := hD
    have hD1' : h2.get? D = some kD := hk2 D kD hDw hD1
    have hkeep : ∀ b ∈ D :: fp, ∀ o, h2.get? b = some o → (c.with h2 (D :: fp)).B b = some o := fun b hb o e => by
      show (if b ∈ D :: fp then h2.get? b else c.B b) = some o
      rw [if_pos hb]; exact e
    have hsome : ∀ b ∈ D :: fp, ∃ o, h2.get? b = some o := fun b hb => (List.mem_cons.mp hb).elim (fun e => e ▸ ⟨_, hD1'⟩) fun q => W.has _ _ hsi2 b q
    refine wpAny_bind (wgo (asg (c.with h2 (D :: fp)) env1 τ1 _ N _ tk1 rfl (hτ.trans l1) S2w (turn _ i acc N X hlt hj)) (fun _ τ3 h3 tk3 m3 N3 l3 S3 p3 => ?_))
    refine wpAny_bind (wgo (p3.run S3) (fun b τ4 h4 tk4 m4 N4 l4 S4 p4 => ?_))
    -- back to c
    have back : ∀ {τ5 h5 tk5 m5 N5}, τ1.le τ5 → St prog w (c.with h2 (D :: fp)) τ5 tk5 h5 m5 N5 → St prog w c τ5 tk5 h5 m5 N5 ∧ (∀ a ∈ D :: fp, N5 a = none) ∧ h5.get? D = some kD ∧ Si (i + 1) h5 := fun {τ5 h5 tk5 m5 N5} l S5 => by
      refine ⟨S5.ofExt X (S.fzm l), fun a ha => ?_, S5.keep D kD (hkeep D (List.mem_cons_self) kD hD1'), W.frame _ _ _ hsi2 fun b hb o e => S5.keep b o (hkeep b (List.mem_cons_of_mem _ hb) o e)⟩
      cases e : N5 a with
      | none => rfl
      | some o =>
        obtain ⟨o2, ho2⟩ := hsome a ha
        have := (S5.obj a o e).2.1
        rw [hkeep a ha o2 ho2] at this; cases this
    cases b with
    | false =>
      refine hideG fun G9 kG9 => ?_
      obtain ⟨S5, n5, d5, si5⟩ := back (l3.trans l4) S4
      refine kG9 ?_
      clear kG9
      exact wpAny_pure ⟨rfl, n + 1 - (i + 1), by lia, i + 1, τ4, h4, tk4, m4, N4, acc, rfl, hlt, rfl, (l1.trans l3).trans l4, S5, fun a ha => n5 a (List.mem_cons_of_mem _ ha), n5 D (List.mem_cons_self), ⟨kD, d5, hD2.mono (l3.trans l4)⟩, by exact Nat.le_succ_of_le (by assumption), si5, p4.2 rfl⟩
    | true =>
      refine wpAny_bind (wpAny_bind (wgo2 ((p4.1 rfl τ4).run h4 tk4 S4) (fun x τ5 h5 tk5 m5 N5 l5 S5 d hd p5 => ?_)))
      refine hideG fun G9 kG9 => ?_
      obtain ⟨S6, n6, d6, si6⟩ := back ((l3.trans l4).trans l5) S5
      refine kG9 ?_
      clear kG9
      have S6w := S6.with (fp := fp) hLf fun a ha => n6 a (List.mem_cons_of_mem _ ha)
      have X6 : Ext c (c.with h5 fp) := Cx.with_ext fun a ha o e => S6.keep a o e
      have hDB6 : (c.with h5 fp).B D = none := by
        show (if D ∈ fp then h5.get? D else c.B D) = none
        rw [if_neg hDf]; exact hDB
      have S7 := S6w.put (o := .list acc) hDB6 hDL d6 (hD2.mono ((l3.trans l4).trans l5))
      have ap : Ca prog w (c.with h5 fp) (.bi "list.append") [.ref D, d] m5 (N5.put D (.list acc)) (fun _ m' N' => N' = (N5.put D (.list acc)).put D (.list (acc ++ [d]))) := Ca.append (NM.put_same _ _ _) (by lia) rfl
      refine wpAny_bind (wgo2 ((ap τ5 _ [.ref D, x] rfl ⟨rfl, hd, trivial⟩).run h5 tk5 S7) (fun _ τ8 h8 tk8 m8 N8 l8 S8 _ _ hN8 => ?_))
      subst hN8
      obtain ⟨k8, g8, is8⟩ := S8.get (NM.put_same _ _ _)
      have S9 : St prog w (c.with h5 fp) τ8 tk8 h8 m8 N5 := S8.weak (fun _ _ e => e) fun a o e => by
        have hne : a ≠ D := fun q => by rw [q, n6 D (List.mem_cons_self)] at e; cases e
        rw [NM.put_ne hne, NM.put_ne hne]; exact e
      have si8 : Si (i + 1) h8 := W.frame _ _ _ si6 fun b hb o e => S9.keep b o (by
        show (if b ∈ fp then h5.get? b else c.B b) = some o
        rw [if_pos hb]; exact e)
      exact wpAny_pure (wpAny_pure ⟨rfl, n + 1 - (i + 1), by lia, i + 1, τ8, h8, tk8, m8, N5, acc ++ [d], rfl, hlt, rfl, (((l1.trans l3).trans l4).trans l5).trans l8, S9.ofExt X6 (S6.fzm l8), fun a ha => n6 a (List.mem_cons_of_mem _ ha), n6 D (List.mem_cons_self), ⟨k8, g8, is8⟩, by rw [List.length_append, List.length_singleton]; lia, si8, p5⟩)
  · have hin : i = n := by lia
    subst hin
    refine W.done (c.s h tk) _ _ hsi fun h' tk' hle hk' => wpAny_pure ?_
    obtain ⟨kD, hD1, hD2⟩ := hD
    exact ⟨τ1, h', tk', m, N, acc, rfl, l1, (S.grow' hk' (fun q => hLf (W.sub _ q)) hwr fun a q => hN a (W.sub _ q)).later hle, hN, hND, ⟨kD, hk' D kD hDw hD1, hD2⟩, hacc, hj⟩
end
end Mine
end PartT3
section PartT4
open PySem PySem.W PyProof.Rows
set_option linter.unusedVariables false
namespace Mine
/- the scope of a comprehension within another -/
noncomputable def relS (scope sc : Scope) : Scope := { scope with names := scope.names.map fun (n, k) => if (k == .free && sc.kind == .function && sc.names.lookup n == some .cell) then (n, .cell) else (n, k) }
theorem relabel_eq {env : Env} {sc : Scope} (h : env.scope = sc) (scope : Scope) : relabel scope env = relS scope sc := by subst h; rfl
structure CompX (c c' : Cx) : Prop where
  A : c'.A = c.A
  B : ∀ a o, c.B a = some o → c'.B a = some o
  F : ∀ a o, c.F a = some o → c'.F a = some o
theorem CompX.fit {w : World} {c c' : Cx} {k : Nat} (X : CompX c c') (F : Fit w c k) : Fit w c' k := ⟨F.B.mono X.B, by rw [X.A]; exact F.h, by rw [X.A]; exact F.d, by rw [X.A]; exact F.u⟩
noncomputable def ownC (own : Option Str) (C : Addr) (cl : List (Str × Addr)) : List (Str × Addr) := match own with
  | none => cl
  | some x => (x, C + 1) :: cl
noncomputable def ownN (own : Option Str) (C : Addr) (N : NM) : NM := match own with
  | none => N
  | some _ => N.put (C + 1) (.cell none)
noncomputable def ownH (own : Option Str) (h : Heap) : Heap := match own with
  | none => h
  | some _ => h.push { cls := .type "cell", data := .cell none }
section
variable {prog : Program} {w : World} {c : Cx} {env : Env} {m : LM} {N : NM} {Pn Pb Pc : LM → NM → Prop} {Pr : V → LM → NM → Prop} {P : V → LM → NM → Prop}
theorem newEnvC {M : Model} {A : Around} {E : Value → Shared → Prop} {s : Shared} {scope : Scope} {globals : Addr} {cl : List (Str × Addr)} {qual : Str} {Q : Env → Shared → Prop}
    (hQ : Q (newEnv scope s.heap.objs.size globals (cellsFrom (s.heap.objs.size + 1) scope.names cl) qual none .none (some env) builtinsNs) { s with heap := pushCells (s.heap.push { cls := .type "dict", data := .dict #[] }) scope.names }) :
    wpAny M A (newFunctionEnv scope globals cl [] qual none .none (some env)) Q E s := by
  simp only [newFunctionEnv, Option.isSome_some, if_true]
  refine wpAny_bind (wpAny_alloc ?_)
  refine wpAny_bind (wpAny_layCells _ (fun name kind cells => by cases hkc : kind == NameKind.cell <;> simp [hkc]) _ _ _ _ ?_)
  rw [show ({ s with heap := s.heap.push { cls := .type "dict", data := .dict #[] } } : Shared).heap.objs.size = s.heap.objs.size + 1 from Heap.size_push ..]
  rw [List.forIn_nil]
  exact wpAny_bind (wpAny_pure (wpAny_pure hQ))
theorem comp_block {sc : Scope} {τ : TM} {elt tgt iter : Expr} {ifs : List Expr} {scope : Scope} {pos : Pos} {cl : List (Str × Addr)} {own : Option Str} {it : Value} {fp wr : List Addr} {n : Nat} {Si : Nat → Heap → Prop} {names : List Str} {dss : Nat → List V}
    (E : FE env c sc) (hkind : scope.kind = .function) (hcs : ∀ n, cellsFrom n scope.names cl = match own with | none => cl | some x => (x, n) :: cl) (hph : ∀ h, pushCells h scope.names = ownH own h)
    (W : Wk prog w c.A τ tgt it fp wr n Si names dss) (hz : n ≤ 1000) {h : Heap} {tk : Nat} (S : St prog w c τ tk h m N) (hfp : ∀ a ∈ fp, N a = none ∧ a ≠ c.L) (hwr : ∀ a ∈ wr, c.B a = none) (hsi : Si 0 h)
    (J : Addr → Nat → List V → NM → Prop) (hj : ∀ C, N C = none → N (C + 1) = none → J C 0 [] (ownN own C N))
    (turn : ∀ C c' env' i acc N', CompX c c' → FE env' c' (relS scope sc) → env'.cells = ownC own C cl → i < n → J C i acc N' →
      SnL prog w c' env' names (dss i) (fun _ => none) N' (fun m2 N2 => Tes prog w c' env' ifs m2 N2 (fun b m3 N3 => (b = true → Ev prog w c' env' elt m3 N3 (fun d _ N4 => J C (i + 1) (acc ++ [d]) N4)) ∧ (b = false → J C (i + 1) acc N3))))
    {RR : Value → Addr → Result → Shared → Prop} {EE : Value → Shared → Prop}
    (hRR : ∀ D C f τ' h' tk' N' acc, τ.le τ' → St prog w c τ' tk' h' m (N'.put D (.list acc)) → N' D = none → (∃ mC, h'.Ns C mC) → C ≠ c.L → c.B C = none → (N'.put D (.list acc)) C = none → acc.length ≤ n → J C n acc N' → RR (.ref D) C (.ok f) (c.s h' tk')) :
    wpAny (model prog w) c.A (newList []) (fun acc s3 => wpAny (model prog w) c.A (newFunctionEnv scope env.globals cl [] env.qual none .none (some env)) (fun cenv s4 =>
      codeAny (model prog w) c.A (.compStart (.ListComp elt [⟨tgt, iter, ifs, 0⟩] scope pos) 0 it acc { cenv with scope := relabel scope env }) (RR acc cenv.locals) s4) EE s3) EE (c.s h tk) := by
  refine wpAny_newObj_type (newEnvC ?_)
  dsimp only
  show codeAny (model prog w) c.A (.compStart (.ListComp elt [⟨tgt, iter, ifs, 0⟩] scope pos) 0 it (.ref h.objs.size) { (newEnv scope (h.push { cls := .type "list", dict := none, data := .seq ([] : List Value).toArray }).objs.size env.globals (cellsFrom ((h.push { cls := .type "list", dict := none, data := .seq ([] : List Value).toArray }).objs.size + 1) scope.names cl) env.qual none .none (some env) builtinsNs) with scope := relabel scope env })
    (RR (.ref h.objs.size) (h.push { cls := .type "list", dict := none, data := .seq ([] : List Value).toArray }).objs.size) { (c.s h tk) with heap := pushCells ((h.push { cls := .type "list", dict := none, data := .seq ([] : List Value).toArray }).push { cls := .type "dict", data := .dict #[] }) scope.names }
  generalize hH2 : h.push { cls := .type "list", dict := none, data := .seq ([] : List Value).toArray } = H2
  have hC : H2.objs.size = h.objs.size + 1 := by rw [← hH2, Heap.size_push]
  rw [hph]
  have old2 : ∀ b o, h.get? b = some o → H2.get? b = some o := fun b o e => hH2 ▸ Heap.get?_push_of_some _ e
  have own_old : ∀ (g : Heap) b o, g.get? b = some o → (ownH own g).get? b = some o := fun g b o e => by
    cases own with
    | none => exact e
    | some x => exact Heap.get?_push_of_some _ e
  have old : ∀ b o, h.get? b = some o → (ownH own (H2.push { cls := .type "dict", data := .dict #[] })).get? b = some o := fun b o e => own_old _ b o (Heap.get?_push_of_some _ (old2 b o e))
  have hD0 : (ownH own (H2.push { cls := .type "dict", data := .dict #[] })).get? h.objs.size = some { cls := .type "list", dict := none, data := .seq ([] : List Value).toArray } :=
    own_old _ _ _ (Heap.get?_push_of_some _ (hH2 ▸ Heap.get?_push_size _ rfl))
  have hns : (ownH own (H2.push { cls := .type "dict", data := .dict #[] })).Ns H2.objs.size (fun _ => none) := (Heap.Ns.new H2 (.type "dict")).at' fun o e => own_old _ _ _ e
  have hcell : ∀ x, own = some x → (ownH own (H2.push { cls := .type "dict", data := .dict #[] })).get? (H2.objs.size + 1) = some { cls := .type "cell", data := .cell none } := fun x e => by
    subst e
    have : (H2.push { cls := .type "dict", data := .dict #[] }).objs.size = H2.objs.size + 1 := Heap.size_push ..
    rw [← this]
    exact Heap.get?_push_size _ rfl
  generalize hH3 : ownH own (H2.push { cls := .type "dict", data := .dict #[] }) = H3 at *
  have fresh : ∀ a, h.objs.size ≤ a → h.get? a = none := fun a ha => by
    cases e : h.get? a with
    | none => rfl
    | some o => exact absurd (Heap.lt_size e) (Nat.not_lt.mpr ha)
  have f0 := S.fresh (Nat.le_refl h.objs.size)
  have f1 := S.fresh (a := H2.objs.size) (by lia)
  have f2 := S.fresh (a := H2.objs.size + 1) (by lia)
  -- the context of the block
  let c1 : Cx := { c with L := H2.objs.size, B := fun a => if a ∈ wr ∨ (N a).isSome then none else h.get? a }
  have hB1 : ∀ a o, c.B a = some o → c1.B a = some o := fun a o e => by
    show (if a ∈ wr ∨ (N a).isSome then none else h.get? a) = some o
    rw [if_neg, S.keep a o e]
    rintro (q | q)
    · rw [hwr a q] at e; cases e
    · cases z : N a with
      | none => rw [z] at q; cases q
      | some x => have := (S.obj a x z).2.1; rw [e] at this; cases this
  have hBnone : ∀ a, h.objs.size ≤ a → c1.B a = none := fun a ha => by
    show (if a ∈ wr ∨ (N a).isSome then none else h.get? a) = none
    split
    · rfl
    · exact fresh a ha
  have S1 : St prog w c1 τ tk H3 (fun _ => none) (ownN own H2.objs.size N) := by
    have base : St prog w c1 τ tk H3 (fun _ => none) N := by
      refine ⟨⟨_, hns, fun x d e => by cases e⟩, fun a o e => ?_, hBnone _ (show h.objs.size ≤ H2.objs.size by lia), fun a o e => ?_, fun a o e => ?_, S.tok, S.pos⟩
      · change (if a ∈ wr ∨ (N a).isSome then none else h.get? a) = some o at e
        split at e
        · cases e
        · exact old a o e
      · refine hideG fun G9 kG9 => ?_
        obtain ⟨x, y, k, z, t⟩ := S.obj a o e
        refine kG9 ?_
        clear kG9
        refine ⟨?_, ?_, k, old a k z, t⟩
        · show a ≠ H2.objs.size
          rw [hC]; exact Nat.ne_of_lt (Nat.lt_succ_of_lt (Heap.lt_size z))
        · show (if a ∈ wr ∨ (N a).isSome then none else h.get? a) = none
          rw [if_pos (.inr (by rw [e]; rfl))]
      · obtain ⟨k, x, y⟩ := S.fz a o e
        exact ⟨k, hB1 a k x, y⟩
    cases own with
    | none => exact base
    | some x => exact base.put (o := .cell none) (hBnone _ (by lia)) (Nat.succ_ne_self _) (hcell x rfl) ⟨none, rfl, fun y hy => by cases hy⟩
  have hC1 : c1.s H3 tk = { (c.s h tk) with heap := H3 } := rfl
  have hND : ownN own H2.objs.size N h.objs.size = none := by
    cases own with
    | none => exact f0.1
    | some x =>
      exact (NM.put_ne (show h.objs.size ≠ H2.objs.size + 1 by lia)).trans f0.1
  have lt_fp : ∀ a ∈ fp, a < h.objs.size := fun a ha => by obtain ⟨o, e⟩ := W.has 0 h hsi a ha; exact Heap.lt_size e
  have hNf : ∀ a ∈ fp, ownN own H2.objs.size N a = none := fun a ha => by
    have := lt_fp a ha
    cases own with
    | none => exact (hfp a ha).1
    | some x => exact (NM.put_ne (Nat.ne_of_lt (Nat.lt_trans (lt_fp a ha) (by rw [hC]; exact Nat.lt_succ_of_lt (Nat.lt_succ_self _))))).trans (hfp a ha).1
  have hsi3 : Si 0 H3 := W.frame 0 h H3 hsi fun b _ o e => old b o e
  have E1 : FE (compEnvC scope (ownC own H2.objs.size cl) H2.objs.size env) c1 (relS scope sc) := ⟨rfl, relabel_eq E.s scope, hkind, E.g, E.b⟩
  have cells : newEnv scope H2.objs.size env.globals (cellsFrom (H2.objs.size + 1) scope.names cl) env.qual none .none (some env) builtinsNs = newEnv scope H2.objs.size env.globals (ownC own H2.objs.size cl) env.qual none .none (some env) builtinsNs := by
    rw [hcs]; cases own <;> rfl
  have loop : codeAny (model prog w) c.A (.compLoop (.ListComp elt [⟨tgt, iter, ifs, 0⟩] scope pos) 0 it (.ref h.objs.size) (compEnvC scope (ownC own H2.objs.size cl) H2.objs.size env)) (RR (.ref h.objs.size) H2.objs.size) { (c.s h tk) with heap := H3 } := by
    refine codeAny_mono (comp_loop (c := c1) (env1 := compEnvC scope (ownC own H2.objs.size cl) H2.objs.size env) W (J H2.objs.size) hz (fun q => Nat.lt_asymm (lt_fp _ q) (by show h.objs.size < H2.objs.size; rw [hC]; exact Nat.lt_succ_self _)) (fun q => Nat.lt_irrefl _ (lt_fp _ q)) (fun a ha => ?_) (show h.objs.size ≠ H2.objs.size by lia) (hBnone _ (Nat.le_refl _))
      (fun c' i acc N' X hi hj' => turn H2.objs.size c' _ i acc N' ⟨X.A, fun a o e => X.B a o (hB1 a o e), X.F⟩ (E1.ext X) rfl hi hj') S1 (.refl τ) hNf hND ⟨_, hD0, [], 0, rfl, trivial⟩ hsi3 (hj _ f1.1 f2.1)) fun r s' hr => ?_
    · show (if a ∈ wr ∨ (N a).isSome then none else h.get? a) = none
      rw [if_pos (.inl ha)]
    · cases r with
      | error e => exact hr.elim
      | ok f =>
        refine hideG fun G9 kG9 => ?_
        obtain ⟨τ', h', tk', m', N', acc, rfl, l, S', nf, nD, ⟨k, gD, isD⟩, hacc, hjn⟩ := hr
        refine kG9 ?_
        clear kG9
        have hBL : c1.B c.L = h.get? c.L := by
          show (if c.L ∈ wr ∨ (N c.L).isSome then none else h.get? c.L) = h.get? c.L
          rw [if_neg]
          rintro (q | q)
          · exact (hfp _ (W.sub _ q)).2 rfl
          · cases z : N c.L with
            | none => rw [z] at q; cases q
            | some x => exact (S.obj _ x z).1 rfl
        obtain ⟨mm, hn, hm⟩ := S.ns
        refine hideG fun G9 kG9 => ?_
        obtain ⟨oL, _, _, hoL, _⟩ := id hn
        refine kG9 ?_
        clear kG9
        have Sc : St prog w c τ' tk' h' m N' := by
          refine ⟨⟨mm, hn.at' fun o e => S'.keep _ o (hBL.trans e), fun x d e => let ⟨v, a, b⟩ := hm x d e; ⟨v, a, b.mono l⟩⟩, fun a o e => S'.keep a o (hB1 a o e), S.offL, fun a o e => ?_, S.fzm l, S'.tok, S'.pos⟩
          obtain ⟨x1, x2, x3⟩ := S'.obj a o e
          refine ⟨fun q => ?_, ?_, x3⟩
          · rw [q, hBL, hoL] at x2; cases x2
          · cases q : c.B a with
            | none => rfl
            | some o' => rw [hB1 a o' q] at x2; cases x2
        obtain ⟨mC, hnC, _⟩ := S'.ns
        have hNC : N' H2.objs.size = none := by
          cases e : N' H2.objs.size with
          | none => rfl
          | some o => exact absurd rfl (S'.obj _ o e).1
        exact hRR h.objs.size H2.objs.size f τ' h' tk' N' acc l (Sc.put f0.2.1 f0.2.2 gD isD) nD ⟨mC, hnC⟩ f1.2.2 f1.2.1 ((NM.put_ne (show H2.objs.size ≠ h.objs.size by lia)).trans hNC) hacc hjn
  rw [cells]
  exact codeAny_compStart_list (prog := prog) (w := w) loop (W.self 0 _ _ _ hsi3 loop)
end
end Mine
end PartT4
section PartT5
open PySem PySem.W PyProof.Rows
set_option linter.unusedVariables false
namespace Mine
section
variable {prog : Program} {w : World} {c : Cx} {env : Env} {m : LM} {N : NM} {Pn Pb Pc : LM → NM → Prop} {Pr : V → LM → NM → Prop} {P : V → LM → NM → Prop}
/- what a loop of a comprehension goes over -/
inductive SrcO (prog : Program) (w : World) (c : Cx) (τ : TM) (tgt : Expr) (it : Value) (n : Nat) (names : List Str) (dss : Nat → List V) (K : LM → NM → Prop) (s2 : Shared) : Prop where
  | mk (τ2 : TM) (h2 : Heap) (tk2 : Nat) (m2 : LM) (N2 : NM) (fp wr : List Addr) (Si : Nat → Heap → Prop) (es : s2 = c.s h2 tk2) (l2 : τ.le τ2) (S2 : St prog w c τ2 tk2 h2 m2 N2)
    (W : Wk prog w c.A τ2 tgt it fp wr n Si names dss) (hsi : Si 0 h2) (hfp : ∀ a ∈ fp, N2 a = none ∧ a ≠ c.L) (hwr : ∀ a ∈ wr, c.B a = none) (k : K m2 N2)
noncomputable def Src (prog : Program) (w : World) (c : Cx) (env : Env) (iter tgt : Expr) (n : Nat) (names : List Str) (dss : Nat → List V) (m : LM) (N : NM) (K : LM → NM → Prop) : Prop :=
  ∀ τ h tk, St prog w c τ tk h m N → wpAny (model prog w) c.A (eval iter env) (fun x s1 => wpAny (model prog w) c.A (pyIter x) (fun it s2 => SrcO prog w c τ tgt it n names dss K s2) (fun _ _ => False) s1) (fun _ _ => False) (c.s h tk)
/- after the block: the names of the comprehension let go -/
theorem after_block {τ : TM} {h h' : Heap} {tk : Nat} {C : Addr} (S : St prog w c τ tk h m N) (hs : Heap.SameBut C h h') (hCL : C ≠ c.L) (hCB : c.B C = none) (hCN : N C = none) : St prog w c τ tk h' m N :=
  S.grow' (wr := [C]) (fun a o ha e => (hs.2 a fun q => ha (by rw [q]; exact List.mem_singleton.mpr rfl)).trans e) (fun q => hCL (List.mem_singleton.mp q).symm) (fun a ha => by rw [List.mem_singleton.mp ha]; exact hCB) fun a ha => by rw [List.mem_singleton.mp ha]; exact hCN
theorem Ev.comp {sc : Scope} {elt tgt iter : Expr} {ifs : List Expr} {scope : Scope} {pos : Pos} {n : Nat} {names : List Str} {dss : Nat → List V} (cl : List (Str × Addr)) (own : Option Str) (J : Addr → Nat → List V → NM → Prop)
    (E : FE env c sc) (hclos : closureFor scope env = Pure.pure cl) (hkind : scope.kind = .function) (hnames : ∀ x ∈ scope.names, x.2 = .local → scope.names.lookup x.1 = some .local)
    (hcs : ∀ n, cellsFrom n scope.names cl = match own with | Option.none => cl | some x => (x, n) :: cl) (hph : ∀ h, pushCells h scope.names = ownH own h) (hs : ∀ x, foldedSetIterable iter env x = Pure.pure x) (hz : n ≤ 1000)
    (h : Src prog w c env iter tgt n names dss m N (fun m1 N1 => (∀ C, N1 C = Option.none → N1 (C + 1) = Option.none → J C 0 [] (ownN own C N1)) ∧ ∀ C D acc N', J C n acc N' → N' D = Option.none → acc.length ≤ n → P (.ref D) m1 (N'.put D (.list acc))))
    (turn : ∀ C c' env' i acc N', CompX c c' → FE env' c' (relS scope sc) → env'.cells = ownC own C cl → i < n → J C i acc N' →
      SnL prog w c' env' names (dss i) (fun _ => Option.none) N' (fun m2 N2 => Tes prog w c' env' ifs m2 N2 (fun b m3 N3 => (b = true → Ev prog w c' env' elt m3 N3 (fun d _ N4 => J C (i + 1) (acc ++ [d]) N4)) ∧ (b = false → J C (i + 1) acc N3)))) :
    Ev prog w c env (.ListComp elt [⟨tgt, iter, ifs, 0⟩] scope pos) m N P := fun τ => ⟨fun H tk S => by
  rw [eval_ListComp]
  refine wpAny_comprehension_free (use := Option.none) (g := ⟨tgt, iter, ifs, 0⟩) (gs := []) rfl hs hclos hkind hnames (wpAny_mono (h τ H tk S) (fun xv s₁ h₁ => wpAny_mono h₁ (fun it s₂ h₂ => ?_) fun _ _ e => e) fun _ _ e => e)
  refine hideG fun G9 kG9 => ?_
  obtain ⟨τ2, h2, tk2, m2, N2, fp, wr, Si, rfl, l2, S2, W, hsi, hfp, hwr, hj, hP⟩ := h₂
  refine kG9 ?_
  clear kG9
  refine comp_block (RR := fun acc C => compPost (model prog w) c.A _ Option.none _ acc C) E hkind hcs hph W hz S2 hfp hwr hsi J hj turn ?_
  intro D C f τ' h' tk' N' acc l S' nD hmC hCL hCB hCN hacc hJ
  obtain ⟨mC, hnC⟩ := hmC
  exact ⟨mC, hnC, fun h'' hs'' => Out.le (l2.trans l) (Out.val (d := .ref D) (after_block S' hs'' hCL hCB hCN) rfl (hP C D acc N' hJ nD hacc))⟩⟩
/- x = [..], the comprehension's value stored ahead of its names' end -/
theorem Ex.assignComp {sc : Scope} {elt tgt iter : Expr} {ifs : List Expr} {scope : Scope} {pos : Pos} {n : Nat} {names : List Str} {dss : Nat → List V} {y : Str} {py spos : Pos} (cl : List (Str × Addr)) (own : Option Str) (J : Addr → Nat → List V → NM → Prop)
    (E : FE env c sc) (hy : isLoc sc y = true) (hsw : swapsWith (.ListComp elt [⟨tgt, iter, ifs, 0⟩] scope pos) (some (.Name y py)) spos.line env = Pure.pure true) (hclos : closureFor scope env = Pure.pure cl) (hkind : scope.kind = .function) (hnames : ∀ x ∈ scope.names, x.2 = .local → scope.names.lookup x.1 = some .local)
    (hcs : ∀ n, cellsFrom n scope.names cl = match own with | Option.none => cl | some x => (x, n) :: cl) (hph : ∀ h, pushCells h scope.names = ownH own h) (hs : ∀ x, foldedSetIterable iter env x = Pure.pure x) (hz : n ≤ 1000)
    (h : Src prog w c env iter tgt n names dss m N (fun m1 N1 => (∀ C, N1 C = Option.none → N1 (C + 1) = Option.none → J C 0 [] (ownN own C N1)) ∧ ∀ C D acc N', J C n acc N' → N' D = Option.none → acc.length ≤ n → Pn (m1.put y (.ref D)) (N'.put D (.list acc))))
    (turn : ∀ C c' env' i acc N', CompX c c' → FE env' c' (relS scope sc) → env'.cells = ownC own C cl → i < n → J C i acc N' →
      SnL prog w c' env' names (dss i) (fun _ => Option.none) N' (fun m2 N2 => Tes prog w c' env' ifs m2 N2 (fun b m3 N3 => (b = true → Ev prog w c' env' elt m3 N3 (fun d _ N4 => J C (i + 1) (acc ++ [d]) N4)) ∧ (b = false → J C (i + 1) acc N3)))) :
    Ex prog w c env (.Assign [.Name y py] (.ListComp elt [⟨tgt, iter, ifs, 0⟩] scope pos) spos) m N Pn Pb Pc Pr := fun τ => ⟨fun H tk S => by
  rw [exec_Assign_Name_used _ _ _ _ hsw]
  refine wpAny_bind (wpAny_standAt (wpAny_bind ?_))
  show wpAny _ c.A (do let _ ← comprehension (.ListComp elt [⟨tgt, iter, ifs, 0⟩] scope pos) scope env _ (newList []) false (eval iter env) (some (PySem.assign (.Name y py) env))) _ _ _
  refine wpAny_bind (wpAny_mono (wpAny_comprehension_free (use := some (PySem.assign (.Name y py) env)) (Q := fun _ s' => Out prog w c τ (fun τ' => FP Pn Pb Pc Pr τ' .next) s') (E := fun _ _ => False) (g := ⟨tgt, iter, ifs, 0⟩) (gs := []) rfl hs hclos hkind hnames
    (wpAny_mono (h τ H tk S) (fun xv s₁ h₁ => wpAny_mono h₁ (fun it s₂ h₂ => ?_) fun _ _ e => e) fun _ _ e => e)) (fun _ s' hq => wpAny_pure (wpAny_pure hq)) fun _ _ e => e)
  refine hideG fun G9 kG9 => ?_
  obtain ⟨τ2, h2, tk2, m2, N2, fp, wr, Si, rfl, l2, S2, W, hsi, hfp, hwr, hj, hP⟩ := h₂
  refine kG9 ?_
  clear kG9
  refine comp_block (RR := fun acc C => compPost (model prog w) c.A (fun _ _ => False) (some (PySem.assign (.Name y py) env)) _ acc C) E hkind hcs hph W hz S2 hfp hwr hsi J hj turn ?_
  intro D C f τ' h' tk' N' acc l S' nD hmC hCL hCB hCN hacc hJ
  obtain ⟨mC, hnC⟩ := hmC
  -- the names' place, kept over the store
  have SW : St prog w (c.with h' [C]) τ' tk' h' m2 (N'.put D (.list acc)) := S'.with (fun q => hCL (List.mem_singleton.mp q).symm) fun a ha => by rw [List.mem_singleton.mp ha]; exact hCN
  have X : Ext c (c.with h' [C]) := Cx.with_ext fun a ha o e => S'.keep a o e
  show wpAny _ c.A (PySem.assign (.Name y py) env (.ref D)) _ _ _
  refine assign_Name (wgo ((Sn.nm (P := fun m3 N3 => m3 = m2.put y (.ref D) ∧ N3 = N'.put D (.list acc)) (E.ext X) hy ⟨rfl, rfl⟩ τ' (.ref D) rfl).run h' tk' SW) (fun _ τ3 h3 tk3 m3 N3 l3 S3 oo => ?_))
  obtain ⟨em, eN⟩ := oo
  subst em eN
  refine ⟨mC, hnC.at' fun o e => S3.keep C o (by show (if C ∈ [C] then h'.get? C else c.B C) = some o; rw [if_pos (List.mem_singleton.mpr rfl)]; exact e), fun h4 hs4 => ?_⟩
  exact Out.le ((l2.trans l).trans l3) (Out.here (after_block (S3.ofExt X (S'.fzm l3)) hs4 hCL hCB hCN) (hP C D acc N' hJ nD hacc))⟩
end
end Mine
end PartT5
section PartT6
open PySem PySem.W PyProof.Rows
set_option linter.unusedVariables false
namespace Mine
/- the value under a key -/
noncomputable def vAt (es : List (Str × V)) (k : Str) : Option V := (es.find? fun e => e.1 = k).map (·.2)
theorem KV.find {τ : TM} {k : Str} : ∀ {es : List (Str × V)} {kvs : List (Str × Value)}, KV τ es kvs → (∀ d, vAt es k = some d → ∃ v, valueAt kvs k = some v ∧ d.is τ v) ∧ (valueAt kvs k).isSome = es.any fun e => e.1 = k
  | [], [], _ => ⟨(fun d e => by cases e), rfl⟩
  | e :: es, v :: kvs, h => by
    refine hideG fun G9 kG9 => ?_
    obtain ⟨h1, h2, h3⟩ := h
    refine kG9 ?_
    clear kG9
    obtain ⟨i1, i2⟩ := KV.find (k := k) h3
    unfold vAt valueAt at *
    by_cases q : e.1 = k
    · have q' : v.1 = k := h1 ▸ q
      refine ⟨fun d hd => ?_, ?_⟩
      · simp [q] at hd
        exact ⟨v.2, by simp [q'], hd ▸ h2⟩
      · simp [q, q']
    · have q' : ¬ v.1 = k := h1 ▸ q
      refine ⟨fun d hd => ?_, ?_⟩
      · simp only [List.find?_cons, decide_eq_false q] at hd
        refine hideG fun G9 kG9 => ?_
        obtain ⟨u, h4, h5⟩ := i1 d hd
        refine kG9 ?_
        clear kG9
        exact ⟨u, by simp only [List.find?_cons, decide_eq_false q']; exact h4, h5⟩
      · simp only [List.find?_cons, decide_eq_false q', List.any_cons, decide_eq_false q, Bool.false_or]; exact i2
  | [], _ :: _, h => h.elim
  | _ :: _, [], h => h.elim
theorem KV.length {τ : TM} : ∀ {es : List (Str × V)} {kvs : List (Str × Value)}, KV τ es kvs → kvs.length = es.length
  | [], [], _ => rfl
  | _ :: _, _ :: _, h => congrArg (· + 1) (KV.length h.2.2)
  | [], _ :: _, h => h.elim
  | _ :: _, [], h => h.elim
theorem KV.snoc {τ : TM} {k : Str} {d : V} {v : Value} (hd : d.is τ v) : ∀ {es : List (Str × V)} {kvs : List (Str × Value)}, KV τ es kvs → KV τ (es ++ [(k, d)]) (kvs ++ [(k, v)])
  | [], [], _ => ⟨rfl, hd, trivial⟩
  | _ :: _, _ :: _, h => ⟨h.1, h.2.1, KV.snoc hd h.2.2⟩
  | [], _ :: _, h => h.elim
  | _ :: _, [], h => h.elim
theorem KV.key {τ : TM} : ∀ {es : List (Str × V)} {kvs : List (Str × Value)}, KV τ es kvs → ∀ {i : Nat} {p : Str × Value}, kvs[i]? = some p → ∃ e, es[i]? = some e ∧ e.1 = p.1
  | [], [], _, _, _, h => by simp at h
  | e :: es, v :: kvs, h, 0, p, q => by
    simp only [List.getElem?_cons_zero, Option.some.injEq] at q; subst q
    exact ⟨e, rfl, h.1⟩
  | e :: es, v :: kvs, h, i + 1, p, q => by
    refine hideG fun G9 kG9 => ?_
    obtain ⟨e', a, b⟩ := KV.key h.2.2 (i := i) (p := p) (by simpa using q)
    refine kG9 ?_
    clear kG9
    exact ⟨e', by simpa using a, b⟩
  | [], _ :: _, h, _, _, _ => h.elim
  | _ :: _, [], h, _, _, _ => h.elim
section
variable {prog : Program} {w : World} {c : Cx} {env : Env} {m : LM} {N : NM} {Pn Pb Pc : LM → NM → Prop} {Pr : V → LM → NM → Prop} {P : V → LM → NM → Prop}
theorem isDict_of {τ : TM} {h : Heap} {a : Addr} {es : List (Str × V)} {k : Obj} (e : h.get? a = some k) (is : (AO.dict es).is prog w τ k) : ∃ kvs ep, h.DictAt (PySem.strKind prog w) a kvs ep ∧ KV τ es kvs := by
  refine hideG fun G9 kG9 => ?_
  obtain ⟨kvs, ets, ep, a1, a2, a3, a4, a5, a6⟩ := is
  refine kG9 ?_
  clear kG9
  exact ⟨kvs, ep, ⟨k, ets, e, a1, a2, a3, a4, a5⟩, a6⟩
theorem isDict_to {τ : TM} {h : Heap} {a : Addr} {es : List (Str × V)} {kvs : List (Str × Value)} (D : h.DictOf (PySem.strKind prog w) a kvs) (K : KV τ es kvs) : ∃ k, h.get? a = some k ∧ (AO.dict es).is prog w τ k := by
  refine hideG fun G9 kG9 => ?_
  obtain ⟨o, ets, ep, e, a1, a2, a3, a4, a5⟩ := D
  refine kG9 ?_
  clear kG9
  exact ⟨o, e, kvs, ets, ep, a1, a2, a3, a4, a5, K⟩
theorem strIs (x : Str) (t : Tok) : (PySem.strKind prog w).is x (.str x t) = true := by show (x == x) = true; simp
/- {} -/
theorem Ev.dict0 {pos : Pos} (hB : Bs w c.B) (h : ∀ a, N a = Option.none → a ≠ sysModules → P (.ref a) m (N.put a (.dict []))) : Ev prog w c env (.Dict [] [] pos) m N P := fun τ => ⟨fun H tk S => by
  refine wpAny_Dict_empty ?_
  have hs : H.objs.size ≠ sysModules := by
    have := Heap.lt_size (S.keep _ _ (hB.K _ _ (fn_heappush w)))
    exact Nat.ne_of_gt (Nat.lt_of_le_of_lt (show (1 : Nat) ≤ 21 by decide) this)
  exact ⟨τ, _, tk, m, _, rfl, .refl τ, S.add (Nat.le_refl _) (fun a o e => Heap.get?_push_of_some _ e) (Heap.get?_push_size _ rfl) (o := .dict []) ⟨[], #[], 0, ⟨rfl, rfl, rfl⟩, rfl, (fun _ he => by simp at he), .nil, List.nodup_nil, trivial⟩, .ref _, rfl, h _ (S.fresh (Nat.le_refl _)).1 hs⟩⟩
/- k in d -/
theorem Cp.inD {a : Addr} {es : List (Str × V)} {k : Str} (hs : a ≠ sysModules) (hr : Rd c N a (.dict es)) (h : P (.bool (es.any fun e => e.1 = k)) m N) : Cp prog w c .In (.str k) (.ref a) m N P := by
  rintro τ _ _ ⟨t, rfl⟩ rfl
  refine ⟨fun H tk S => ?_⟩
  refine hideG fun G9 kG9 => ?_
  obtain ⟨o, e, is⟩ := S.rd hr
  obtain ⟨kvs, ep, D, K⟩ := isDict_of e is
  refine kG9 ?_
  clear kG9
  refine wpAny_in_of (s := c.s H tk) (strIs k t) (by simpa using hs) D.dictOf.mapOf ?_
  rw [(KV.find K).2]
  exact Out.val (d := .bool _) (S.later (Nat.le_succ _)) rfl h
/- d[k] -/
theorem Sb.dict {value slice : Expr} {a : Addr} {es : List (Str × V)} {k : Str} {d : V} (hr : Rd c N a (.dict es)) (hd : vAt es k = some d) (h : P d m N) (hs : plainSlice slice = true := by rfl) : Sb prog w c value slice (.ref a) (.str k) m N P := by
  rintro τ _ _ rfl ⟨t, rfl⟩
  refine ⟨fun H tk S => ?_⟩
  refine hideG fun G9 kG9 => ?_
  obtain ⟨o, e, is⟩ := S.rd hr
  obtain ⟨kvs, ep, D, K⟩ := isDict_of e is
  obtain ⟨v, hv, iv⟩ := (KV.find K).1 d hd
  refine kG9 ?_
  clear kG9
  exact tail_any (s := c.s H tk) (T := "dict") D.dictOf.typeIs slot_dict_getitem.lookup (wpAny_getItem_of (s := c.s H tk) (strIs k t) D.dictOf.mapOf hv (Out.val (S.later (Nat.le_succ _)) iv h)) (plain_sub hs _ _)
/- d[k] = v, a new key -/
theorem Ex.setKey {o i value : Expr} {pos pos' : Pos} (h : Ev prog w c env value m N (fun d m1 N1 => Ev prog w c env o m1 N1 (fun ov m2 N2 => Ev prog w c env i m2 N2 (fun iv m3 N3 =>
      ∃ a es k, ov = .ref a ∧ iv = .str k ∧ N3 a = some (.dict es) ∧ (∀ e ∈ es, e.1 ≠ k) ∧ es.length ≤ 1000 ∧ Pn m3 (N3.put a (.dict (es ++ [(k, d)])))))))
    (hs : swapsWith value (some (.Subscript o i pos')) pos.line env = Pure.pure false := by rfl) : Ex prog w c env (.Assign [.Subscript o i pos'] value pos) m N Pn Pb Pc Pr := fun τ => ⟨fun H tk S => by
  refine wpAny_Assign_Subscript (wgo2 ((h τ).run H tk S) (fun v τ1 h1 tk1 m1 N1 l1 S1 d hd p => ?_)) hs
  refine wgo2 ((p τ1).run h1 tk1 S1) (fun vo τ2 h2 tk2 m2 N2 l2 S2 ov hov p2 => ?_)
  refine wgo2 ((p2 τ2).run h2 tk2 S2) (fun vi τ3 h3 tk3 m3 N3 l3 S3 iv hiv oo => ?_)
  refine hideG fun G9 kG9 => ?_
  obtain ⟨a, es, k, e4, e5, hN, hnew, hz, p3⟩ := oo
  refine kG9 ?_
  clear kG9
  subst e4 e5
  cases hov
  obtain ⟨t, rfl⟩ := hiv
  refine hideG fun G9 kG9 => ?_
  obtain ⟨ob, eo, is⟩ := S3.get hN
  obtain ⟨kvs, ep, D, K⟩ := isDict_of eo is
  refine kG9 ?_
  clear kG9
  have hany : kvs.any (fun kv => kv.1 = k) = false := by
    have h2 := (KV.find (k := k) K).2
    have h3 : (es.any fun e => decide (e.1 = k)) = false := by
      rw [List.any_eq_false]
      intro e he; simpa using hnew e he
    rw [h3] at h2
    unfold valueAt at h2
    rw [Option.isSome_map] at h2
    cases q : kvs.find? (fun kv => decide (kv.1 = k)) with
    | some kv => rw [q] at h2; cases h2
    | none =>
      rw [List.any_eq_false]
      intro kv hkv
      exact List.find?_eq_none.mp q kv hkv
  refine wpAny_setItem_pairs (s := c.s h3 tk3) (strIs k t) D.dictOf (fun h' D' hs' => ?_) (by rw [K.length, sizeLine_eq]; omega)
  have est : stored kvs k v = kvs ++ [(k, v)] := by unfold stored; rw [hany]; rfl
  rw [est] at D'
  refine hideG fun G9 kG9 => ?_
  obtain ⟨k', e6, is6⟩ := isDict_to D' (K.snoc (k := k) (hd.mono (l2.trans l3)))
  refine kG9 ?_
  clear kG9
  exact Out.le ((l1.trans l2).trans l3) (Out.here ((S3.upd hN hs'.extBut e6 is6).later (Nat.le_succ _)) p3)⟩
end
end Mine
end PartT6
section PartT7
open PySem PySem.W PyProof.Rows
set_option linter.unusedVariables false
namespace Mine
section
variable {prog : Program} {w : World} {c : Cx} {env : Env} {m : LM} {N : NM} {Pn Pb Pc : LM → NM → Prop} {Pr : V → LM → NM → Prop} {P : V → LM → NM → Prop}
theorem Wk.name {A : Around} {τ : TM} {x : Str} {px : Pos} {I : Addr} {fp wr : List Addr} {n : Nat} {Pv : Nat → Value → Prop} {Si : Nat → Heap → Prop} (W : Walks prog w A I fp wr n Pv Si) (has : ∀ i h, Si i h → ∀ a ∈ fp, ∃ o, h.get? a = some o) (ds : Nat → V) (hds : ∀ i v, i < n → Pv i v → (ds i).is τ v) :
    Wk prog w A τ (.Name x px) (.ref I) fp wr n Si [x] (fun i => [ds i]) where
  sub := W.sub
  frame := W.frame
  has := has
  next := fun i s Q E hi hs hQ => wpAny_with_toks (n := s.toks) (Nat.le_refl _) (W.item i s _ _ hi hs fun v h1 tk1 hP hs1 hk1 => fun hle => hQ v h1 tk1 hle fun s' Q' E' es go => by
    subst es
    show wpAny _ _ (pure ()) _ _ _
    refine wpAny_pure (go h1 hk1 hs1 fun c' env' τ' m' N' P tk' hA hle' S hS => ?_)
    refine assign_Name ?_
    have := (hS τ' v ((hds i v hi hP).mono hle')).run h1 tk' S
    rw [hA] at this
    exact this)
  done := fun s Q E hs hQ => wpAny_with_toks (n := s.toks) (Nat.le_refl _) (W.done s _ _ hs fun h' tk hk => fun hle => hQ h' tk hle hk)
  self := W.self
/- over a frozen list -/
theorem Src.list {iter : Expr} {x : Str} {px : Pos} {ds : List V} {K : LM → NM → Prop} (hh : c.A.handled = Option.none) (h : Ev prog w c env iter m N (fun d m1 N1 => ∃ a, d = .ref a ∧ c.F a = some (.list ds) ∧ K m1 N1)) :
    Src prog w c env iter (.Name x px) ds.length [x] (fun i => [ds.getD i .none]) m N K := fun τ H tk S => by
  refine wgo2 ((h τ).run H tk S) (fun v τ1 h1 tk1 m1 N1 l1 S1 d hd oo => ?_)
  refine hideG fun G9 kG9 => ?_
  obtain ⟨a, ed, ha, k⟩ := oo
  refine kG9 ?_
  clear kG9
  subst ed
  cases hd
  refine hideG fun G9 kG9 => ?_
  obtain ⟨o, eB, is⟩ := S1.fz a _ ha
  have eo := S1.keep a o eB
  obtain ⟨vs, hl, hv, _⟩ := isList_of eo is
  refine kG9 ?_
  clear kG9
  have hlt := Heap.lt_size eo
  have f := S1.fresh (Nat.le_refl h1.objs.size)
  refine wpAny_pyIter_list (s := c.s h1 tk1) hl ?_
  have hsz : vs.toArray.size = ds.length := by rw [List.size_toArray, hv.length]
  have W0 : Wk prog w c.A τ1 (.Name x px) (.ref h1.objs.size) [h1.objs.size, a] [h1.objs.size] vs.toArray.size (fun i h => h.IsListIter h1.objs.size a i ∧ h.IsList a vs.toArray) [x] (fun i => [ds.getD i .none]) := by
    refine Wk.name (Walks.list hh h1.objs.size a (Nat.ne_of_lt hlt) vs.toArray) (fun i h st b hb => ?_) (fun i => ds.getD i .none) (fun i v hi hP => ?_)
    · rcases List.mem_cons.mp hb with rfl | hb
      · obtain ⟨o, e, _⟩ := st.1; exact ⟨o, e⟩
      · rw [List.mem_singleton.mp hb]; obtain ⟨o, e, _⟩ := st.2; exact ⟨o, e⟩
    · refine hideG fun G9 kG9 => ?_
      obtain ⟨d, h1, h2⟩ := hv.get' (i := i) (v := v) (by simpa using hP)
      refine kG9 ?_
      clear kG9
      rw [List.getD_eq_getElem?_getD, h1]; exact h2
  rw [hsz] at W0
  refine ⟨τ1, _, tk1, m1, N1, [h1.objs.size, a], [h1.objs.size], _, rfl, l1, S1.grow fun b o e => Heap.get?_push_of_some _ e, W0, ?_, fun b hb => ?_, fun b hb => ?_, k⟩
  · exact ⟨⟨_, Heap.get?_push_size _ rfl, rfl, rfl⟩, Heap.IsList.push hl _⟩
  · rcases List.mem_cons.mp hb with rfl | hb
    · exact ⟨f.1, f.2.2⟩
    · rw [List.mem_singleton.mp hb]
      refine ⟨?_, fun q => ?_⟩
      · cases e : N1 a with
        | none => rfl
        | some o' => have := (S1.obj a o' e).2.1; rw [eB] at this; cases this
      · rw [q, S1.offL] at eB; cases eB
  · rw [List.mem_singleton.mp hb]; exact f.2.1
/- over a range -/
theorem Src.range {iter : Expr} {x : Str} {px : Pos} {n : Nat} {K : LM → NM → Prop} (hh : c.A.handled = Option.none) (hn : n ≤ 1000) (h : Ev prog w c env iter m N (fun d m1 N1 => ∃ a, d = .ref a ∧ N1 a = some (.rng 0 n 1) ∧ K m1 N1)) :
    Src prog w c env iter (.Name x px) n [x] (fun i => [.int i]) m N K := fun τ H tk S => by
  refine wgo2 ((h τ).run H tk S) (fun v τ1 h1 tk1 m1 N1 l1 S1 d hd oo => ?_)
  refine hideG fun G9 kG9 => ?_
  obtain ⟨a, ed, ha, k⟩ := oo
  refine kG9 ?_
  clear kG9
  subst ed
  cases hd
  refine hideG fun G9 kG9 => ?_
  obtain ⟨o, eo, t, u, y, rfl⟩ := S1.get ha
  refine kG9 ?_
  clear kG9
  have f := S1.fresh (Nat.le_refl h1.objs.size)
  refine wpAny_pyIter_range (s := c.s h1 tk1) eo (small_one (by lia) (by lia) (by lia) (by lia)) ?_
  have hrs : Builtin.Range.rangeSize 0 (n : Int) 1 = (n : Int) := by rw [rangeSize_one]; split <;> lia
  have W0 := Wk.name (x := x) (px := px) (τ := τ1) (Walks.range (prog := prog) (w := w) (A := c.A) hh h1.objs.size 0 1 n) (fun i h e b hb => by rw [List.mem_singleton.mp hb]; exact ⟨_, e⟩) (fun i => V.int i)
    (fun i v hi hP => by obtain ⟨t, e⟩ := hP; exact ⟨t, by rw [e]; congr 1; lia⟩)
  refine ⟨τ1, _, tk1, m1, N1, [h1.objs.size], [h1.objs.size], _, rfl, l1, S1.grow fun b o e => Heap.get?_push_of_some _ e, W0, ?_, fun b hb => ?_, fun b hb => ?_, k⟩
  · show Heap.get? _ h1.objs.size = _
    rw [show (c.s h1 tk1).heap = h1 from rfl, Heap.get?_push_size _ rfl, hrs]
    simp
  · rw [List.mem_singleton.mp hb]; exact ⟨f.1, f.2.2⟩
  · rw [List.mem_singleton.mp hb]; exact f.2.1
/- over a frozen dict -/
theorem Src.dict {iter : Expr} {x : Str} {px : Pos} {es : List (Str × V)} {K : LM → NM → Prop} (hh : c.A.handled = Option.none) (h : Ev prog w c env iter m N (fun d m1 N1 => ∃ a, d = .ref a ∧ a ≠ sysModules ∧ c.F a = some (.dict es) ∧ K m1 N1)) :
    Src prog w c env iter (.Name x px) es.length [x] (fun i => [.str (es.getD i (⟨#[]⟩, .none)).1]) m N K := fun τ H tk S => by
  refine wgo2 ((h τ).run H tk S) (fun v τ1 h1 tk1 m1 N1 l1 S1 d hd oo => ?_)
  refine hideG fun G9 kG9 => ?_
  obtain ⟨a, ed, hsm, ha, k⟩ := oo
  refine kG9 ?_
  clear kG9
  subst ed
  cases hd
  refine hideG fun G9 kG9 => ?_
  obtain ⟨o, eB, is⟩ := S1.fz a _ ha
  have eo := S1.keep a o eB
  obtain ⟨kvs, ep, D, KK⟩ := isDict_of eo is
  refine kG9 ?_
  clear kG9
  have hlt := Heap.lt_size eo
  have f := S1.fresh (Nat.le_refl h1.objs.size)
  refine wpAny_pyIter_dict (s := c.s h1 tk1) (by simpa using hsm) D ?_
  have W0 : Wk prog w c.A τ1 (.Name x px) (.ref h1.objs.size) [h1.objs.size, a] [h1.objs.size] kvs.length (fun i h => h.IsKeyIter h1.objs.size a i kvs.length ep ∧ h.DictAt (PySem.strKind prog w) a kvs ep) [x] (fun i => [.str (es.getD i (⟨#[]⟩, .none)).1]) := by
    refine Wk.name (Walks.dictKeys hh h1.objs.size a (Nat.ne_of_lt hlt) kvs ep) (fun i h st b hb => ?_) (fun i => .str (es.getD i (⟨#[]⟩, .none)).1) (fun i v hi hP => ?_)
    · rcases List.mem_cons.mp hb with rfl | hb
      · obtain ⟨o, e, _⟩ := st.1; exact ⟨o, e⟩
      · rw [List.mem_singleton.mp hb]; obtain ⟨o, _, e, _⟩ := st.2; exact ⟨o, e⟩
    · refine hideG fun G9 kG9 => ?_
      obtain ⟨k', x', e1, e2⟩ := hP
      obtain ⟨e, e3, e4⟩ := KV.key KK e1
      refine kG9 ?_
      clear kG9
      rw [List.getD_eq_getElem?_getD, e3]
      obtain ⟨t, rfl⟩ := Value.isStrOf_shape e2
      refine ⟨t, ?_⟩
      show _ = Value.str e.1 t
      rw [e4]
  rw [KK.length] at W0
  refine ⟨τ1, _, tk1, m1, N1, [h1.objs.size, a], [h1.objs.size], _, rfl, l1, S1.grow fun b o e => Heap.get?_push_of_some _ e, W0, ?_, fun b hb => ?_, fun b hb => ?_, k⟩
  · refine ⟨⟨_, Heap.get?_push_size _ rfl, rfl, ?_⟩, D.push _⟩
    rw [KK.length]; rfl
  · rcases List.mem_cons.mp hb with rfl | hb
    · exact ⟨f.1, f.2.2⟩
    · rw [List.mem_singleton.mp hb]
      refine ⟨?_, fun q => ?_⟩
      · cases e : N1 a with
        | none => rfl
        | some o' => have := (S1.obj a o' e).2.1; rw [eB] at this; cases this
      · rw [q, S1.offL] at eB; cases eB
  · rw [List.mem_singleton.mp hb]; exact f.2.1
/- from here on these objects stand as they are -/
theorem Es.freeze {sts : List Stmt} (fz : List Addr) (h : ∀ c', Ext c c' → (∀ a ∈ fz, ∀ o, N a = some o → c'.F a = some o) → Es prog w c' env sts m (fun a => if a ∈ fz then Option.none else N a) Pn Pb Pc Pr) : Es prog w c env sts m N Pn Pb Pc Pr := fun τ => ⟨fun H tk S => by
  let c' : Cx := { c with B := fun a => if a ∈ fz ∧ (N a).isSome then H.get? a else c.B a, F := fun a => if a ∈ fz ∧ (N a).isSome then N a else c.F a }
  have noB : ∀ a, c.B a ≠ Option.none → ¬ (a ∈ fz ∧ (N a).isSome) := fun a hb q => by
    cases z : N a with
    | none => rw [z] at q; cases q.2
    | some x => exact hb (S.obj a x z).2.1
  have X : Ext c c' := ⟨rfl, rfl, rfl, rfl, rfl, fun a o e => by
    show (if a ∈ fz ∧ (N a).isSome then H.get? a else c.B a) = some o
    rw [if_neg (noB a (by rw [e]; simp))]; exact e, fun a o e => by
    refine hideG fun G9 kG9 => ?_
    obtain ⟨k, eB, _⟩ := S.fz a o e
    refine kG9 ?_
    clear kG9
    show (if a ∈ fz ∧ (N a).isSome then N a else c.F a) = some o
    rw [if_neg (noB a (by rw [eB]; simp))]; exact e⟩
  have S' : St prog w c' τ tk H m (fun a => if a ∈ fz then Option.none else N a) := by
    refine ⟨S.ns, fun a o e => ?_, ?_, fun a o e => ?_, fun a o e => ?_, S.tok, S.pos⟩
    · change (if a ∈ fz ∧ (N a).isSome then H.get? a else c.B a) = some o at e
      split at e
      · exact e
      · exact S.keep a o e
    · show (if c.L ∈ fz ∧ (N c.L).isSome then H.get? c.L else c.B c.L) = Option.none
      rw [if_neg]
      · exact S.offL
      · rintro ⟨_, q⟩
        cases z : N c.L with
        | none => rw [z] at q; cases q
        | some x => exact (S.obj _ x z).1 rfl
    · split at e
      · cases e
      · rename_i q
        refine hideG fun G9 kG9 => ?_
        obtain ⟨x, y, k, z, t⟩ := S.obj a o e
        refine kG9 ?_
        clear kG9
        refine ⟨x, ?_, k, z, t⟩
        show (if a ∈ fz ∧ (N a).isSome then H.get? a else c.B a) = Option.none
        rw [if_neg fun z => q z.1]; exact y
    · change (if a ∈ fz ∧ (N a).isSome then N a else c.F a) = some o at e
      split at e
      · rename_i q
        refine hideG fun G9 kG9 => ?_
        obtain ⟨x, y, k, z, t⟩ := S.obj a o e
        refine kG9 ?_
        clear kG9
        refine ⟨k, ?_, t⟩
        show (if a ∈ fz ∧ (N a).isSome then H.get? a else c.B a) = some k
        rw [if_pos q]; exact z
      · rename_i q
        refine hideG fun G9 kG9 => ?_
        obtain ⟨k, x, y⟩ := S.fz a o e
        refine kG9 ?_
        clear kG9
        refine ⟨k, ?_, y⟩
        show (if a ∈ fz ∧ (N a).isSome then H.get? a else c.B a) = some k
        rw [if_neg q]; exact x
  have hF : ∀ a ∈ fz, ∀ o, N a = some o → c'.F a = some o := fun a ha o e => by
    show (if a ∈ fz ∧ (N a).isSome then N a else c.F a) = some o
    rw [if_pos ⟨ha, by rw [e]; rfl⟩]; exact e
  refine wgo ((h c' X hF τ).run H tk S') (fun f τ1 h1 tk1 m1 N1 l1 S1 p => ?_)
  exact ⟨τ1, h1, tk1, m1, N1, rfl, l1, S1.ofExt X (S.fzm l1), p⟩⟩
end
end Mine
end PartT7
section PartT8
open PySem PySem.W PyProof.Rows
set_option linter.unusedVariables false
set_option maxRecDepth 100000
namespace Mine
section
variable {prog : Program} {w : World} {c : Cx} {env : Env} {m : LM} {N : NM} {Pn Pb Pc : LM → NM → Prop} {Pr : V → LM → NM → Prop} {P : V → LM → NM → Prop}
/- list + list -/
theorem Bi.addL {a b : Addr} {ds es : List V} (ha : Rd c N a (.list ds)) (hb : Rd c N b (.list es)) (hz : ds.length + es.length ≤ 1000) (h : ∀ r, N r = none → P (.ref r) m (N.put r (.list (ds ++ es)))) : Bi prog w c .Add (.ref a) (.ref b) m N P := by
  rintro τ _ _ rfl rfl
  refine ⟨fun H tk S => ?_⟩
  refine hideG fun G9 kG9 => ?_
  obtain ⟨o1, e1, vs, n1, rfl, v1⟩ := S.rd ha
  obtain ⟨o2, e2, us, n2, rfl, v2⟩ := S.rd hb
  refine kG9 ?_
  clear kG9
  refine PySem.P.add_list (s := c.s H tk) e1 e2 ?_ (by rw [List.size_toArray, List.size_toArray, v1.length, v2.length, sizeLine_eq]; lia)
  have e : vs.toArray ++ us.toArray = (vs ++ us).toArray := by simp
  rw [e]
  exact Out.alloc S (o := .list (ds ++ es)) ⟨vs ++ us, 0, rfl, v1.append v2⟩ rfl h
theorem fold_one {v : Value} : ∀ n : Nat, List.foldl (fun x1 x2 => x1 ++ x2) (#[] : Array Value) (List.replicate n #[v]) = (List.replicate n v).toArray := by
  have : ∀ (n : Nat) (acc : List Value), List.foldl (fun x1 x2 => x1 ++ x2) acc.toArray (List.replicate n #[v]) = (acc ++ List.replicate n v).toArray := by
    intro n
    induction n with
    | zero => intro acc; simp
    | succ n ih =>
      intro acc
      rw [List.replicate_succ, List.foldl_cons, show acc.toArray ++ #[v] = (acc ++ [v]).toArray by simp, ih]
      simp [List.replicate_succ]
  intro n
  simpa using this n []
theorem VS.replicate {τ : TM} {d : V} {v : Value} (h : d.is τ v) : ∀ n, VS τ (List.replicate n d) (List.replicate n v)
  | 0 => trivial
  | n + 1 => ⟨h, VS.replicate h n⟩
theorem mul_raw {A : Around} {E : Value → Shared → Prop} {s : Shared} {Q : Value → Shared → Prop} {l : Addr} {items : Array Value} {k : Nat} {x : Int} {u : Tok}
    (hl : s.heap.get? l = some { cls := .type "list", dict := none, data := .seq items k, slots := #[] }) (hlo : -(2 ^ 63 : Int) ≤ x) (hhi : x < 2 ^ 63) (hsz : items.size * x.toNat ≤ 2 ^ 24)
    (h : Q (.ref s.heap.objs.size) { s with heap := s.heap.push { cls := .type "list", data := .seq (List.foldl (fun x1 x2 => x1 ++ x2) #[] (List.replicate (if items.isEmpty = true then 0 else x.toNat) items)) } }) :
    wpAny (model prog w) A (binaryOp .Mult (.ref l) (.int x u)) Q E s :=
  wpAny_binaryOp_repeat_ref (T := "list") (U := "int") (by decide) ⟨_, hl, rfl⟩ (fun s' => typeIs_int s' x u) noFill_list_mul F.fills_int_mul F.slot_int_rmul repeat_list F.slot_int_index.lookup
    (call_meets F.slot_int_rmul (typeIs_int s x u) F.entry_int_rmul (F.args_int_rmul_2 _ _) (int___rmul___int_list x u l items k)
      ⟨hl, rfl, ⟨_, hl, rfl⟩, call_meets F.slot_list_mul ⟨_, hl, rfl⟩ F.entry_list_mul (F.args_list_mul_2 _ _)
        (AutoListH.list___mul___list_int_3 l items k x u (by simp [Builtin.List.listFitsIndex]; lia) (by lia) (by simp [Builtin.List.listTooLong, sizeLine]; lia))
        ⟨hl, h⟩⟩)
/- [d] * n -/
theorem Bi.mulL {a : Addr} {d : V} {n : Nat} (ha : Rd c N a (.list [d])) (hz : n ≤ 1000) (h : ∀ r, N r = none → P (.ref r) m (N.put r (.list (List.replicate n d)))) : Bi prog w c .Mult (.ref a) (.int n) m N P := by
  rintro τ _ _ rfl ⟨u, rfl⟩
  refine ⟨fun H tk S => ?_⟩
  refine hideG fun G9 kG9 => ?_
  obtain ⟨o1, e1, vs, n1, rfl, v1⟩ := S.rd ha
  obtain ⟨v, rfl, hv⟩ := v1.one
  refine kG9 ?_
  clear kG9
  refine mul_raw (s := c.s H tk) (items := #[v]) e1 (by lia) (by lia) (by simp; lia) ?_
  have e : List.foldl (fun x1 x2 => x1 ++ x2) (#[] : Array Value) (List.replicate (if (#[v] : Array Value).isEmpty = true then 0 else (n : Int).toNat) #[v]) = (List.replicate n v).toArray := by
    rw [if_neg (by simp), Int.toNat_natCast]; exact fold_one n
  rw [e]
  exact Out.alloc S (o := .list (List.replicate n d)) ⟨List.replicate n v, 0, rfl, VS.replicate hv n⟩ rfl h
theorem ints_are {τ : TM} : ∀ {ns : List Int} {vs : List Value}, VS τ (ns.map V.int) vs → IntsAre vs ns
  | [], [], _ => .nil
  | _ :: _, _ :: _, h => by obtain ⟨⟨t, rfl⟩, h⟩ := h; exact .cons _ _ (ints_are h)
  | [], _ :: _, h => h.elim
  | _ :: _, [], h => h.elim
theorem of_ints {τ : TM} : ∀ {ns : List Int} {vs : List Value}, IntsAre vs ns → VS τ (ns.map V.int) vs
  | _, _, .nil => trivial
  | _, _, .cons n t h => ⟨⟨t, rfl⟩, of_ints h⟩
/- xs[i::k] of ints -/
theorem Ev.sliceStep {value lo st : Expr} {p pos : Pos} (ht : ∀ o r, letTemporaryGo value o r = Pure.pure ()) (h : Ev prog w c env value m N (fun d m1 N1 => Ev prog w c env lo m1 N1 (fun e m2 N2 => Ev prog w c env st m2 N2 (fun f m3 N3 =>
      ∃ (a : Addr) (ns : List Int) (i k : Int), d = .ref a ∧ e = .int i ∧ f = .int k ∧ k ≠ 0 ∧ Rd c N3 a (.list (ns.map V.int)) ∧ ns.length ≤ 1000 ∧ ∀ (b : Addr) (ms : List Int), N3 b = Option.none → P (.ref b) m3 (N3.put b (.list (ms.map V.int))))))) :
    Ev prog w c env (.Subscript value (.Slice (some lo) Option.none (some st) p) pos) m N P := fun τ => ⟨fun H tk S => by
  refine Subscript_ (wgo2 ((h τ).run H tk S) (fun vo τ1 h1 tk1 m1 N1 l1 S1 d hd p1 => ?_))
  refine wpAny_Slice (wgo2 ((p1 τ1).run h1 tk1 S1) (fun vi τ2 h2 tk2 m2 N2 l2 S2 e he p2 => ?_))
  refine wpAny_pure (wgo2 ((p2 τ2).run h2 tk2 S2) (fun vk τ3 h3 tk3 m3 N3 l3 S3 f hf oo => ?_))
  refine hideG fun G9 kG9 => ?_
  obtain ⟨a, ns, i, k, e4, e5, e6, hk, hr, hz, q⟩ := oo
  refine kG9 ?_
  clear kG9
  subst e4 e5 e6
  cases hd
  obtain ⟨u, rfl⟩ := he
  obtain ⟨t, rfl⟩ := hf
  refine hideG fun G9 kG9 => ?_
  obtain ⟨o, eo, is⟩ := S3.rd hr
  obtain ⟨vs, hl, hv, _⟩ := isList_of eo is
  refine kG9 ?_
  clear kG9
  have hi := ints_are hv
  show wpAny _ _ (subscriptTail value _ (.ref a) (.ref h3.objs.size)) _ _ { (c.s h3 tk3) with heap := h3.push _ }
  have hl' : (h3.push { cls := .type "slice", data := .fields #[Value.int i u, .none, Value.int k t] }).IsList a vs.toArray := hl.push _
  refine subscriptTail_ops (ops := [.ref a, .ref h3.objs.size]) (Heap.IsList.typeIs (s := { (c.s h3 tk3) with heap := h3.push { cls := .type "slice", data := .fields #[Value.int i u, .none, Value.int k t] } }) hl') list_getitem_lookup
    (wpAny_getItem_list_slice (lo := some i) (hi := Option.none) (st := some k) hl' (Heap.IsSliceOf.new ..) (.int _ _) .none (.int _ _) (by simpa using hk) ?_ (by rw [List.size_toArray, hv.length, List.length_map, sizeLine_eq]; lia)) (by with_unfolding_all rfl) (fun r => ht _ r)
  have S4 : St prog w c τ3 tk3 (h3.push { cls := .type "slice", data := .fields #[Value.int i u, .none, Value.int k t] }) m3 N3 := S3.grow fun b o e => Heap.get?_push_of_some _ e
  have := hi.pick (some i) Option.none (some k)
  exact Out.le ((l1.trans l2).trans l3) (Out.alloc S4 (o := .list ((pickNums ns (some i) Option.none (some k)).map V.int)) ⟨_, 0, by rw [Array.toArray_toList], of_ints this⟩ rfl fun b hb => q b _ hb)⟩
end
end Mine
end PartT8
section PartG0
open PySem PySem.W PyProof.Rows
set_option linter.unusedVariables false
set_option maxRecDepth 100000
namespace Mine
section
variable {prog : Program} {w : World} {c : Cx} {env : Env} {m : LM} {N : NM} {P : V → LM → NM → Prop}
theorem clb_siftdown (hB : Bs w c.B) : Clb w c (.ref 35) := ⟨_, _, hB.K _ _ (fn_siftdown w), rfl⟩
theorem clb_siftup (hB : Bs w c.B) : Clb w c (.ref 42) := ⟨_, _, hB.K _ _ (fn_siftup w), rfl⟩
theorem clb_heappush (hB : Bs w c.B) : Clb w c (.ref 21) := ⟨_, _, hB.K _ _ (fn_heappush w), rfl⟩
theorem clb_heappop (hB : Bs w c.B) : Clb w c (.ref 28) := ⟨_, _, hB.K _ _ (fn_heappop w), rfl⟩
theorem clb_hls (hB : Bs w c.B) : Clb w c (.ref 49) := ⟨_, _, hB.K _ _ (fn_rgb_to_hls w), rfl⟩
theorem clb_hsv (hB : Bs w c.B) : Clb w c (.ref 56) := ⟨_, _, hB.K _ _ (fn_hsv_to_rgb w), rfl⟩
theorem clb_sub (hB : Bs w c.B) : Clb w c (.ref 63) := ⟨_, _, hB.K _ _ (fn_substitution_cost w), rfl⟩
theorem clb_lev (hB : Bs w c.B) : Clb w c (.ref 70) := ⟨_, _, hB.K _ _ (fn_levenshtein_distance w), rfl⟩
theorem Ev.append {o e : Expr} {apos pos : Pos} (h : Ev prog w c env o m N (fun d m1 N1 => Ty prog w c N1 d "list" ∧ Ar prog w c env [e] m1 N1 (fun as m2 N2 => Ca prog w c (.bi "list.append") (d :: as) m2 N2 P)))
    (hbase : attributeBase o (Str.ofString "append") env (eval o env) = eval o env) (hline : (apos.endLine == pos.line) = true)
    (he : starEach [e] env = [(false, eval e env)]) :
    Ev prog w c env (.Call (.Attribute o (Str.ofString "append") apos) [e] [] pos) m N P := Ev.meth F.plainAttrs_list F.slot_list_append F.type_list_append h hbase hline he rfl (by rw [he]; rfl)
theorem Ev.pop {o : Expr} {apos pos : Pos} (h : Ev prog w c env o m N (fun d m1 N1 => Ty prog w c N1 d "list" ∧ Ca prog w c (.bi "list.pop") [d] m1 N1 P))
    (hbase : attributeBase o (Str.ofString "pop") env (eval o env) = eval o env) (hline : (apos.endLine == pos.line) = true) :
    Ev prog w c env (.Call (.Attribute o (Str.ofString "pop") apos) [] [] pos) m N P := Ev.meth0 F.plainAttrs_list F.slot_list_pop F.type_list_pop h hbase hline
end
section
variable {prog : Program} {w : World} {c : Cx} {env : Env} {m : LM} {N : NM}
theorem SnL.nil {P : LM → NM → Prop} (h : P m N) : SnL prog w c env [] [] m N P := h
theorem SnL.cons {x : Str} {xs : List Str} {d : V} {ds : List V} {P : LM → NM → Prop} (h : Sn prog w c env x d m N (fun m' N' => SnL prog w c env xs ds m' N' P)) : SnL prog w c env (x :: xs) (d :: ds) m N P := h
theorem Tes.nil {P : Bool → LM → NM → Prop} (h : P true m N) : Tes prog w c env [] m N P := h
theorem Tes.one {e : Expr} {P : Bool → LM → NM → Prop} (h : Te prog w c env e m N P) : Tes prog w c env [e] m N P := h
end
section
variable {prog : Program} {w : World} {c : Cx} {env : Env} {m : LM} {N : NM} {Pn Pb Pc : LM → NM → Prop} {Pr : V → LM → NM → Prop}
theorem Ex.cutR {st : Stmt} (Q : LM → NM → Prop) (h : ∀ R : LM → NM → Prop, (∀ m' N', Q m' N' → R m' N') → Ex prog w c env st m N R Pb Pc Pr) (hq : ∀ m' N', Q m' N' → Pn m' N') : Ex prog w c env st m N Pn Pb Pc Pr := h Pn hq
theorem Es.hideL {sts : List Stmt} {J : LM → NM → Prop} (h : ∀ R : LM → NM → Prop, (∀ m' N', J m' N' → R m' N') → Es prog w c env sts m N R Pb R Pr) : Es prog w c env sts m N J Pb J Pr := h J fun _ _ x => x
end
theorem NM.keep {N : NM} {a b : Addr} {o x : AO} (h : N b = none) (e : N a = some o) : (N.put b x) a = some o := by
  rw [NM.put_ne fun q => by rw [q, h] at e; cases e]; exact e
end Mine
end PartG0
section PartF1
open PySem PySem.W PyProof.Rows
set_option linter.unusedVariables false
set_option maxRecDepth 100000
set_option exponentiation.threshold 2000
namespace Mine
section
variable {prog : Program} {w : World} {c : Cx} {env : Env} {sc : Scope} {m : LM} {N : NM} {P : V → LM → NM → Prop}
noncomputable def hsvT (i : Int) (h s v : UInt64) : List V :=
  let f := Float64.sub (Float64.mul h 4618441417868443648) (Float64.ofInt i)
  let p := Float64.mul v (Float64.sub 4607182418800017408 s)
  let q := Float64.mul v (Float64.sub 4607182418800017408 (Float64.mul s f))
  let t := Float64.mul v (Float64.sub 4607182418800017408 (Float64.mul s (Float64.sub 4607182418800017408 f)))
  if i = 0 then [.flt v, .flt t, .flt p] else if i = 1 then [.flt q, .flt v, .flt p] else if i = 2 then [.flt p, .flt v, .flt t] else if i = 3 then [.flt p, .flt q, .flt v] else if i = 4 then [.flt t, .flt p, .flt v] else [.flt v, .flt p, .flt q]
theorem hsv_spec {h s v : UInt64} {i : Int} {sg : Bool} {k : Nat} {e : Int} (F : Fit w c 1) (hs : (Float64.cmp s 0 == some Ordering.eq) = false) (hd : Float64.decode (Float64.mul h 4618441417868443648) = Float64.Num.fin sg k e) (hi : Float64.truncOf sg k e = i) (h0 : 0 ≤ i) (h6 : i < 6)
    (hP : ∀ a, N a = none → P (.ref a) m (N.put a (.tup (hsvT i h s v)))) : Ca prog w c (.ref 56) [.flt h, .flt s, .flt v] m N P := by
  refine Ca.fn (names := [Str.ofString "h", Str.ofString "s", Str.ofString "v"]) F.B (by have := F.d; lia) (fn_hsv_to_rgb w) (cd_hsv_to_rgb w) (bd_hsv_to_rgb w) ?_ rfl ?_ ?_ ?_ ?_ ?_ ?_
  · intro vs hl
    obtain ⟨a, b, d, rfl⟩ := vs3 hl
    exact ba_hsv_to_rgb w a b d
  · rw [sc_hsv_to_rgb]; decide
  · rw [sc_hsv_to_rgb]; decide
  · intro c' hA hB hBB
    have E : FE (callEnv (fdOf w 56) c'.L 56) c' (scopeOf (fnStmt 7)) := callEnv_FE w (sc_hsv_to_rgb w) rfl rfl rfl rfl
    generalize callEnv (fdOf w 56) c'.L 56 = env at E hA
    have hn : i.natAbs < 2 ^ 1023 := Nat.lt_of_lt_of_le (show i.natAbs < 6 by lia) (by decide)
    have hm : i.fmod 6 = i := by rw [Int.fmod_eq_emod_of_nonneg _ (by decide), Int.emod_eq_of_lt h0 h6]
    refine Es.cons ?_
    refine Ex.if ?_
    (repeat (first | with_reducible refine Ev.nm (by assumption) (by with_unfolding_all rfl) (by repeat (first | with_reducible assumption | with_reducible exact LM.put_same _ _ _ | with_reducible refine (LM.put_ne (by decide)).trans ?_ | with_unfolding_all rfl)) ?_ | with_reducible refine Ev.flt ?_ | with_reducible refine Cp.eqF ?_ | with_reducible refine Tu.bool ?_ | with_reducible refine Te.cmp ?_ (by with_unfolding_all rfl)))
    rw [hs]
    skip
    refine ⟨nofun, fun _ => ?_⟩
    (repeat (first | with_reducible refine Ev.nm (by assumption) (by with_unfolding_all rfl) (by repeat (first | with_reducible assumption | with_reducible exact LM.put_same _ _ _ | with_reducible refine (LM.put_ne (by decide)).trans ?_ | with_unfolding_all rfl)) ?_ | with_reducible refine Ev.bin ?_ | with_reducible refine Ev.flt ?_ | with_reducible refine Ev.call ?_ (by with_unfolding_all rfl) (by with_unfolding_all rfl) (by with_unfolding_all rfl) | with_reducible refine Ev.b_int (by assumption) (by assumption) (by with_unfolding_all rfl) ⟨clb_ty, ?_⟩ | with_reducible refine Bi.mulF ?_ | with_reducible refine Es.cons ?_ | with_reducible refine Es.nil ?_ | with_reducible refine Ar.cons ?_ (by with_unfolding_all rfl) | with_reducible refine Ar.nil ?_ | with_reducible refine Ex.assign ?_ (by with_unfolding_all rfl)))
    refine Ca.intF hd ?_
    rw [hi]
    (repeat (first | with_reducible refine Ev.nm (by assumption) (by with_unfolding_all rfl) (by repeat (first | with_reducible assumption | with_reducible exact LM.put_same _ _ _ | with_reducible refine (LM.put_ne (by decide)).trans ?_ | with_unfolding_all rfl)) ?_ | with_reducible refine Ev.bin ?_ | with_reducible refine Ev.flt ?_ | with_reducible refine Bi.mulF ?_ | with_reducible refine Es.cons ?_ | with_reducible refine Sn.nm (by assumption) (by with_unfolding_all rfl) ?_ | with_reducible refine Ex.assign ?_ (by with_unfolding_all rfl)))
    refine Bi.subFI hn ?_
    (repeat (first | with_reducible refine Ev.nm (by assumption) (by with_unfolding_all rfl) (by repeat (first | with_reducible assumption | with_reducible exact LM.put_same _ _ _ | with_reducible refine (LM.put_ne (by decide)).trans ?_ | with_unfolding_all rfl)) ?_ | with_reducible refine Ev.bin ?_ | with_reducible refine Ev.int ?_ | with_reducible refine Ev.flt ?_ | with_reducible refine Bi.modI (by decide) ?_ | with_reducible refine Bi.mulF ?_ | with_reducible refine Bi.subF ?_ | with_reducible refine Es.cons ?_ | with_reducible refine Sn.nm (by assumption) (by with_unfolding_all rfl) ?_ | with_reducible refine Ex.assign ?_ (by with_unfolding_all rfl)))
    refine Ex.if ?_
    (repeat (first | with_reducible refine Ev.nm (by assumption) (by with_unfolding_all rfl) (by repeat (first | with_reducible assumption | with_reducible exact LM.put_same _ _ _ | with_reducible refine (LM.put_ne (by decide)).trans ?_ | with_unfolding_all rfl)) ?_ | with_reducible refine Ev.int ?_ | with_reducible refine Cp.eqI ?_ | with_reducible refine Tu.bool ?_ | with_reducible refine Te.cmp ?_ (by with_unfolding_all rfl)))
    rw [hm]
    refine ⟨fun hq => ?_, fun hq0 => ?_⟩
    · (repeat (first | with_reducible refine Ev.nm (by assumption) (by with_unfolding_all rfl) (by repeat (first | with_reducible assumption | with_reducible exact LM.put_same _ _ _ | with_reducible refine (LM.put_ne (by decide)).trans ?_ | with_unfolding_all rfl)) ?_ | with_reducible refine Ev.tuple ?_ | with_reducible refine Es.cons ?_ | with_reducible refine Ar.cons ?_ (by with_unfolding_all rfl) | with_reducible refine Ar.nil ?_ | with_reducible refine Ex.ret ?_))
      refine ⟨by simp, fun a ha => ?_⟩
      have q : i = 0 := by simpa using hq
      subst q
      exact hP a ha
    (repeat (first | with_reducible refine Es.cons ?_ | with_reducible refine Es.nil ?_))
    refine Ex.if ?_
    (repeat (first | with_reducible refine Ev.nm (by assumption) (by with_unfolding_all rfl) (by repeat (first | with_reducible assumption | with_reducible exact LM.put_same _ _ _ | with_reducible refine (LM.put_ne (by decide)).trans ?_ | with_unfolding_all rfl)) ?_ | with_reducible refine Ev.int ?_ | with_reducible refine Cp.eqI ?_ | with_reducible refine Tu.bool ?_ | with_reducible refine Te.cmp ?_ (by with_unfolding_all rfl)))
    refine ⟨fun hq => ?_, fun hq1 => ?_⟩
    · (repeat (first | with_reducible refine Ev.nm (by assumption) (by with_unfolding_all rfl) (by repeat (first | with_reducible assumption | with_reducible exact LM.put_same _ _ _ | with_reducible refine (LM.put_ne (by decide)).trans ?_ | with_unfolding_all rfl)) ?_ | with_reducible refine Ev.tuple ?_ | with_reducible refine Es.cons ?_ | with_reducible refine Ar.cons ?_ (by with_unfolding_all rfl) | with_reducible refine Ar.nil ?_ | with_reducible refine Ex.ret ?_))
      refine ⟨by simp, fun a ha => ?_⟩
      have q : i = 1 := by simpa using hq
      subst q
      exact hP a ha
    (repeat (first | with_reducible refine Es.cons ?_ | with_reducible refine Es.nil ?_))
    refine Ex.if ?_
    (repeat (first | with_reducible refine Ev.nm (by assumption) (by with_unfolding_all rfl) (by repeat (first | with_reducible assumption | with_reducible exact LM.put_same _ _ _ | with_reducible refine (LM.put_ne (by decide)).trans ?_ | with_unfolding_all rfl)) ?_ | with_reducible refine Ev.int ?_ | with_reducible refine Cp.eqI ?_ | with_reducible refine Tu.bool ?_ | with_reducible refine Te.cmp ?_ (by with_unfolding_all rfl)))
    refine ⟨fun hq => ?_, fun hq2 => ?_⟩
    · (repeat (first | with_reducible refine Ev.nm (by assumption) (by with_unfolding_all rfl) (by repeat (first | with_reducible assumption | with_reducible exact LM.put_same _ _ _ | with_reducible refine (LM.put_ne (by decide)).trans ?_ | with_unfolding_all rfl)) ?_ | with_reducible refine Ev.tuple ?_ | with_reducible refine Es.cons ?_ | with_reducible refine Ar.cons ?_ (by with_unfolding_all rfl) | with_reducible refine Ar.nil ?_ | with_reducible refine Ex.ret ?_))
      refine ⟨by simp, fun a ha => ?_⟩
      have q : i = 2 := by simpa using hq
      subst q
      exact hP a ha
    (repeat (first | with_reducible refine Es.cons ?_ | with_reducible refine Es.nil ?_))
    refine Ex.if ?_
    (repeat (first | with_reducible refine Ev.nm (by assumption) (by with_unfolding_all rfl) (by repeat (first | with_reducible assumption | with_reducible exact LM.put_same _ _ _ | with_reducible refine (LM.put_ne (by decide)).trans ?_ | with_unfolding_all rfl)) ?_ | with_reducible refine Ev.int ?_ | with_reducible refine Cp.eqI ?_ | with_reducible refine Tu.bool ?_ | with_reducible refine Te.cmp ?_ (by with_unfolding_all rfl)))
    refine ⟨fun hq => ?_, fun hq3 => ?_⟩
    · (repeat (first | with_reducible refine Ev.nm (by assumption) (by with_unfolding_all rfl) (by repeat (first | with_reducible assumption | with_reducible exact LM.put_same _ _ _ | with_reducible refine (LM.put_ne (by decide)).trans ?_ | with_unfolding_all rfl)) ?_ | with_reducible refine Ev.tuple ?_ | with_reducible refine Es.cons ?_ | with_reducible refine Ar.cons ?_ (by with_unfolding_all rfl) | with_reducible refine Ar.nil ?_ | with_reducible refine Ex.ret ?_))
      refine ⟨by simp, fun a ha => ?_⟩
      have q : i = 3 := by simpa using hq
      subst q
      exact hP a ha
    (repeat (first | with_reducible refine Es.cons ?_ | with_reducible refine Es.nil ?_))
    refine Ex.if ?_
    (repeat (first | with_reducible refine Ev.nm (by assumption) (by with_unfolding_all rfl) (by repeat (first | with_reducible assumption | with_reducible exact LM.put_same _ _ _ | with_reducible refine (LM.put_ne (by decide)).trans ?_ | with_unfolding_all rfl)) ?_ | with_reducible refine Ev.int ?_ | with_reducible refine Cp.eqI ?_ | with_reducible refine Tu.bool ?_ | with_reducible refine Te.cmp ?_ (by with_unfolding_all rfl)))
    refine ⟨fun hq => ?_, fun hq4 => ?_⟩
    · (repeat (first | with_reducible refine Ev.nm (by assumption) (by with_unfolding_all rfl) (by repeat (first | with_reducible assumption | with_reducible exact LM.put_same _ _ _ | with_reducible refine (LM.put_ne (by decide)).trans ?_ | with_unfolding_all rfl)) ?_ | with_reducible refine Ev.tuple ?_ | with_reducible refine Es.cons ?_ | with_reducible refine Ar.cons ?_ (by with_unfolding_all rfl) | with_reducible refine Ar.nil ?_ | with_reducible refine Ex.ret ?_))
      refine ⟨by simp, fun a ha => ?_⟩
      have q : i = 4 := by simpa using hq
      subst q
      exact hP a ha
    (repeat (first | with_reducible refine Es.cons ?_ | with_reducible refine Es.nil ?_))
    refine Ex.if ?_
    (repeat (first | with_reducible refine Ev.nm (by assumption) (by with_unfolding_all rfl) (by repeat (first | with_reducible assumption | with_reducible exact LM.put_same _ _ _ | with_reducible refine (LM.put_ne (by decide)).trans ?_ | with_unfolding_all rfl)) ?_ | with_reducible refine Ev.int ?_ | with_reducible refine Cp.eqI ?_ | with_reducible refine Tu.bool ?_ | with_reducible refine Te.cmp ?_ (by with_unfolding_all rfl)))
    refine ⟨fun hq => ?_, fun hq5 => ?_⟩
    · (repeat (first | with_reducible refine Ev.nm (by assumption) (by with_unfolding_all rfl) (by repeat (first | with_reducible assumption | with_reducible exact LM.put_same _ _ _ | with_reducible refine (LM.put_ne (by decide)).trans ?_ | with_unfolding_all rfl)) ?_ | with_reducible refine Ev.tuple ?_ | with_reducible refine Es.cons ?_ | with_reducible refine Ar.cons ?_ (by with_unfolding_all rfl) | with_reducible refine Ar.nil ?_ | with_reducible refine Ex.ret ?_))
      refine ⟨by simp, fun a ha => ?_⟩
      have q : i = 5 := by simpa using hq
      subst q
      exact hP a ha
    (repeat (first | with_reducible refine Es.nil ?_))
    exfalso
    simp at hq0 hq1 hq2 hq3 hq4 hq5
    lia
  · rw [sc_hsv_to_rgb]; rfl
  · rw [sc_hsv_to_rgb]; rfl
  · rw [sc_hsv_to_rgb]; rfl
end
end Mine
end PartF1
section PartF2
open PySem PySem.W PyProof.Rows
set_option linter.unusedVariables false
set_option maxRecDepth 100000
set_option exponentiation.threshold 2000
namespace Mine
section
variable {prog : Program} {w : World} {c : Cx} {env : Env} {sc : Scope} {m : LM} {N : NM} {P : V → LM → NM → Prop}
noncomputable def hlsR (r g b : UInt64) : UInt64 := Float64.sub (maxF3 r g b) (minF3 r g b)
noncomputable def hlsL (r g b : UInt64) : UInt64 := Float64.div (Float64.add (maxF3 r g b) (minF3 r g b)) 4611686018427387904
noncomputable def hlsH (r g b : UInt64) : UInt64 :=
  let mx := maxF3 r g b
  let rc := Float64.div (Float64.sub mx r) (hlsR r g b)
  let gc := Float64.div (Float64.sub mx g) (hlsR r g b)
  let bc := Float64.div (Float64.sub mx b) (hlsR r g b)
  let h := if (Float64.cmp r mx == some .eq) = true then Float64.sub bc gc else if (Float64.cmp g mx == some .eq) = true then Float64.sub (Float64.add 4611686018427387904 rc) bc else Float64.sub (Float64.add 4616189618054758400 gc) rc
  (Float64.divmod (Float64.div h 4618441417868443648) 4607182418800017408).snd
noncomputable def hlsOk (r g b : UInt64) : Bool :=
  !(Float64.cmp (minF3 r g b) (maxF3 r g b) == some .eq) && !Float64.isZero (hlsR r g b) &&
    (if (Float64.cmp (hlsL r g b) 4602678819172646912 == some .lt || Float64.cmp (hlsL r g b) 4602678819172646912 == some .eq) = true then !Float64.isZero (Float64.add (maxF3 r g b) (minF3 r g b)) else !Float64.isZero (Float64.sub (Float64.sub 4611686018427387904 (maxF3 r g b)) (minF3 r g b)))
theorem nz6 : ¬ Float64.isZero 4618441417868443648 = true := by decide +kernel
theorem nz1 : ¬ Float64.isZero 4607182418800017408 = true := by decide +kernel
theorem nz2 : ¬ Float64.isZero 4611686018427387904 = true := by decide +kernel
theorem hls_spec {r g b : UInt64} (F : Fit w c 1) (ok : hlsOk r g b = true) (hP : ∀ a s, N a = none → P (.ref a) m (N.put a (.tup [.flt (hlsH r g b), .flt (hlsL r g b), .flt s]))) : Ca prog w c (.ref 49) [.flt r, .flt g, .flt b] m N P := by
  unfold hlsOk at ok
  simp only [Bool.and_eq_true, Bool.not_eq_true'] at ok
  obtain ⟨⟨ok1, ok2⟩, ok3⟩ := ok
  have ok2' : ¬ Float64.isZero (hlsR r g b) = true := by rw [ok2]; exact Bool.false_ne_true
  unfold hlsR hlsL at *
  refine Ca.fn (names := [Str.ofString "r", Str.ofString "g", Str.ofString "b"]) F.B (by have := F.d; omega) (fn_rgb_to_hls w) (cd_rgb_to_hls w) (bd_rgb_to_hls w) ?_ rfl ?_ ?_ ?_ ?_ ?_ ?_
  · intro vs hl
    obtain ⟨a, b, d, rfl⟩ := vs3 hl
    exact ba_rgb_to_hls w a b d
  · rw [sc_rgb_to_hls]; decide
  · rw [sc_rgb_to_hls]; decide
  · intro c' hA hB hBB
    have hh : c'.A.handled = none := by rw [hA]; exact F.h
    have E : FE (callEnv (fdOf w 49) c'.L 49) c' (scopeOf (fnStmt 6)) := callEnv_FE w (sc_rgb_to_hls w) rfl rfl rfl rfl
    generalize callEnv (fdOf w 49) c'.L 49 = env at E hA
    refine Es.cons ?_
    (repeat (first | with_reducible refine Ev.nm (by assumption) (by with_unfolding_all rfl) (by repeat (first | with_reducible assumption | with_reducible exact LM.put_same _ _ _ | with_reducible refine (LM.put_ne (by decide)).trans ?_ | with_unfolding_all rfl)) ?_ | with_reducible refine Ev.call ?_ (by with_unfolding_all rfl) (by with_unfolding_all rfl) (by with_unfolding_all rfl) | with_reducible refine Ev.b_max (by assumption) (by assumption) (by with_unfolding_all rfl) ⟨clb_bi, ?_⟩ | with_reducible refine Ar.cons ?_ (by with_unfolding_all rfl) | with_reducible refine Ar.nil ?_ | with_reducible refine Ex.assign ?_ (by with_unfolding_all rfl)))
    refine Ca.maxF hh ?_
    (repeat (first | with_reducible refine Ev.nm (by assumption) (by with_unfolding_all rfl) (by repeat (first | with_reducible assumption | with_reducible exact LM.put_same _ _ _ | with_reducible refine (LM.put_ne (by decide)).trans ?_ | with_unfolding_all rfl)) ?_ | with_reducible refine Ev.call ?_ (by with_unfolding_all rfl) (by with_unfolding_all rfl) (by with_unfolding_all rfl) | with_reducible refine Ev.b_min (by assumption) (by assumption) (by with_unfolding_all rfl) ⟨clb_bi, ?_⟩ | with_reducible refine Es.cons ?_ | with_reducible refine Ar.cons ?_ (by with_unfolding_all rfl) | with_reducible refine Ar.nil ?_ | with_reducible refine Sn.nm (by assumption) (by with_unfolding_all rfl) ?_ | with_reducible refine Ex.assign ?_ (by with_unfolding_all rfl)))
    refine Ca.minF hh ?_
    (repeat (first | with_reducible refine Ev.nm (by assumption) (by with_unfolding_all rfl) (by repeat (first | with_reducible assumption | with_reducible exact LM.put_same _ _ _ | with_reducible refine (LM.put_ne (by decide)).trans ?_ | with_unfolding_all rfl)) ?_ | with_reducible refine Ev.bin ?_ | with_reducible refine Ev.flt ?_ | with_reducible refine Bi.subF ?_ | with_reducible refine Bi.addF ?_ | with_reducible refine Es.cons ?_ | with_reducible refine Sn.nm (by assumption) (by with_unfolding_all rfl) ?_ | with_reducible refine Ex.assign ?_ (by with_unfolding_all rfl)))
    refine Bi.divF nz2 ?_
    (repeat (first | with_reducible refine Es.cons ?_ | with_reducible refine Sn.nm (by assumption) (by with_unfolding_all rfl) ?_))
    refine Ex.if ?_
    (repeat (first | with_reducible refine Ev.nm (by assumption) (by with_unfolding_all rfl) (by repeat (first | with_reducible assumption | with_reducible exact LM.put_same _ _ _ | with_reducible refine (LM.put_ne (by decide)).trans ?_ | with_unfolding_all rfl)) ?_ | with_reducible refine Cp.eqF ?_ | with_reducible refine Tu.bool ?_ | with_reducible refine Te.cmp ?_ (by with_unfolding_all rfl)))
    rw [ok1]
    skip
    refine ⟨nofun, fun _ => ?_⟩
    (repeat (first | with_reducible refine Es.cons ?_ | with_reducible refine Es.nil ?_))
    refine Ex.cut (fun m N m' N' => N' = N ∧ ∃ s, m' = m.put (Str.ofString "s") (.flt s)) (Ex.if ?_) ?_
    · (repeat (first | with_reducible refine Ev.nm (by assumption) (by with_unfolding_all rfl) (by repeat (first | with_reducible assumption | with_reducible exact LM.put_same _ _ _ | with_reducible refine (LM.put_ne (by decide)).trans ?_ | with_unfolding_all rfl)) ?_ | with_reducible refine Ev.flt ?_ | with_reducible refine Cp.leF ?_ | with_reducible refine Tu.bool ?_ | with_reducible refine Te.cmp ?_ (by with_unfolding_all rfl)))
      refine ⟨fun q => ?_, fun q => ?_⟩
      · rw [if_pos q, Bool.not_eq_true'] at ok3
        have ok3' : ¬ Float64.isZero (Float64.add (maxF3 r g b) (minF3 r g b)) = true := by rw [ok3]; exact Bool.false_ne_true
        (repeat (first | with_reducible refine Ev.nm (by assumption) (by with_unfolding_all rfl) (by repeat (first | with_reducible assumption | with_reducible exact LM.put_same _ _ _ | with_reducible refine (LM.put_ne (by decide)).trans ?_ | with_unfolding_all rfl)) ?_ | with_reducible refine Ev.bin ?_ | with_reducible refine Es.cons ?_ | with_reducible refine Ex.assign ?_ (by with_unfolding_all rfl)))
        refine Bi.divF ok3' ?_
        (repeat (first | with_reducible refine Es.nil ?_ | with_reducible refine Sn.nm (by assumption) (by with_unfolding_all rfl) ?_))
        exact ⟨rfl, _, rfl⟩
      · rw [if_neg (by rw [q]; exact Bool.false_ne_true), Bool.not_eq_true'] at ok3
        have ok3' : ¬ Float64.isZero (Float64.sub (Float64.sub 4611686018427387904 (maxF3 r g b)) (minF3 r g b)) = true := by rw [ok3]; exact Bool.false_ne_true
        (repeat (first | with_reducible refine Ev.nm (by assumption) (by with_unfolding_all rfl) (by repeat (first | with_reducible assumption | with_reducible exact LM.put_same _ _ _ | with_reducible refine (LM.put_ne (by decide)).trans ?_ | with_unfolding_all rfl)) ?_ | with_reducible refine Ev.bin ?_ | with_reducible refine Ev.flt ?_ | with_reducible refine Bi.subF ?_ | with_reducible refine Es.cons ?_ | with_reducible refine Ex.assign ?_ (by with_unfolding_all rfl)))
        refine Bi.divF ok3' ?_
        (repeat (first | with_reducible refine Es.nil ?_ | with_reducible refine Sn.nm (by assumption) (by with_unfolding_all rfl) ?_))
        exact ⟨rfl, _, rfl⟩
    rintro m1 N1 ⟨e1, s, e2⟩
    subst e1 e2
    (repeat (first | with_reducible refine Ev.nm (by assumption) (by with_unfolding_all rfl) (by repeat (first | with_reducible assumption | with_reducible exact LM.put_same _ _ _ | with_reducible refine (LM.put_ne (by decide)).trans ?_ | with_unfolding_all rfl)) ?_ | with_reducible refine Ev.bin ?_ | with_reducible refine Bi.subF ?_ | with_reducible refine Es.cons ?_ | with_reducible refine Ex.assign ?_ (by with_unfolding_all rfl)))
    refine Bi.divF ok2' ?_
    (repeat (first | with_reducible refine Ev.nm (by assumption) (by with_unfolding_all rfl) (by repeat (first | with_reducible assumption | with_reducible exact LM.put_same _ _ _ | with_reducible refine (LM.put_ne (by decide)).trans ?_ | with_unfolding_all rfl)) ?_ | with_reducible refine Ev.bin ?_ | with_reducible refine Bi.subF ?_ | with_reducible refine Es.cons ?_ | with_reducible refine Sn.nm (by assumption) (by with_unfolding_all rfl) ?_ | with_reducible refine Ex.assign ?_ (by with_unfolding_all rfl)))
    refine Bi.divF ok2' ?_
    (repeat (first | with_reducible refine Ev.nm (by assumption) (by with_unfolding_all rfl) (by repeat (first | with_reducible assumption | with_reducible exact LM.put_same _ _ _ | with_reducible refine (LM.put_ne (by decide)).trans ?_ | with_unfolding_all rfl)) ?_ | with_reducible refine Ev.bin ?_ | with_reducible refine Bi.subF ?_ | with_reducible refine Es.cons ?_ | with_reducible refine Sn.nm (by assumption) (by with_unfolding_all rfl) ?_ | with_reducible refine Ex.assign ?_ (by with_unfolding_all rfl)))
    refine Bi.divF ok2' ?_
    (repeat (first | with_reducible refine Es.cons ?_ | with_reducible refine Sn.nm (by assumption) (by with_unfolding_all rfl) ?_))
    refine Ex.cut (fun m N m' N' => N' = N ∧ ∃ h, m' = m.put (Str.ofString "h") (.flt h) ∧ (Float64.divmod (Float64.div h 4618441417868443648) 4607182418800017408).snd = hlsH r g b) (Ex.if ?_) ?_
    · (repeat (first | with_reducible refine Ev.nm (by assumption) (by with_unfolding_all rfl) (by repeat (first | with_reducible assumption | with_reducible exact LM.put_same _ _ _ | with_reducible refine (LM.put_ne (by decide)).trans ?_ | with_unfolding_all rfl)) ?_ | with_reducible refine Cp.eqF ?_ | with_reducible refine Tu.bool ?_ | with_reducible refine Te.cmp ?_ (by with_unfolding_all rfl)))
      refine ⟨fun q1 => ?_, fun q1 => ?_⟩
      · (repeat (first | with_reducible refine Ev.nm (by assumption) (by with_unfolding_all rfl) (by repeat (first | with_reducible assumption | with_reducible exact LM.put_same _ _ _ | with_reducible refine (LM.put_ne (by decide)).trans ?_ | with_unfolding_all rfl)) ?_ | with_reducible refine Ev.bin ?_ | with_reducible refine Bi.subF ?_ | with_reducible refine Es.cons ?_ | with_reducible refine Es.nil ?_ | with_reducible refine Sn.nm (by assumption) (by with_unfolding_all rfl) ?_ | with_reducible refine Ex.assign ?_ (by with_unfolding_all rfl)))
        exact ⟨rfl, _, rfl, by simp [hlsH, hlsR, q1]⟩
      · (repeat (first | with_reducible refine Es.cons ?_))
        refine Ex.if ?_
        (repeat (first | with_reducible refine Ev.nm (by assumption) (by with_unfolding_all rfl) (by repeat (first | with_reducible assumption | with_reducible exact LM.put_same _ _ _ | with_reducible refine (LM.put_ne (by decide)).trans ?_ | with_unfolding_all rfl)) ?_ | with_reducible refine Cp.eqF ?_ | with_reducible refine Tu.bool ?_ | with_reducible refine Te.cmp ?_ (by with_unfolding_all rfl)))
        refine ⟨fun q2 => ?_, fun q2 => ?_⟩
        · (repeat (first | with_reducible refine Ev.nm (by assumption) (by with_unfolding_all rfl) (by repeat (first | with_reducible assumption | with_reducible exact LM.put_same _ _ _ | with_reducible refine (LM.put_ne (by decide)).trans ?_ | with_unfolding_all rfl)) ?_ | with_reducible refine Ev.bin ?_ | with_reducible refine Ev.flt ?_ | with_reducible refine Bi.subF ?_ | with_reducible refine Bi.addF ?_ | with_reducible refine Es.cons ?_ | with_reducible refine Es.nil ?_ | with_reducible refine Sn.nm (by assumption) (by with_unfolding_all rfl) ?_ | with_reducible refine Ex.assign ?_ (by with_unfolding_all rfl)))
          exact ⟨rfl, _, rfl, by simp [hlsH, hlsR, q1, q2]⟩
        · (repeat (first | with_reducible refine Ev.nm (by assumption) (by with_unfolding_all rfl) (by repeat (first | with_reducible assumption | with_reducible exact LM.put_same _ _ _ | with_reducible refine (LM.put_ne (by decide)).trans ?_ | with_unfolding_all rfl)) ?_ | with_reducible refine Ev.bin ?_ | with_reducible refine Ev.flt ?_ | with_reducible refine Bi.subF ?_ | with_reducible refine Bi.addF ?_ | with_reducible refine Es.cons ?_ | with_reducible refine Es.nil ?_ | with_reducible refine Sn.nm (by assumption) (by with_unfolding_all rfl) ?_ | with_reducible refine Ex.assign ?_ (by with_unfolding_all rfl)))
          exact ⟨rfl, _, rfl, by simp [hlsH, hlsR, q1, q2]⟩
    rintro m1 N2 ⟨e1, h, e2, hh⟩
    subst e1 e2
    (repeat (first | with_reducible refine Ev.nm (by assumption) (by with_unfolding_all rfl) (by repeat (first | with_reducible assumption | with_reducible exact LM.put_same _ _ _ | with_reducible refine (LM.put_ne (by decide)).trans ?_ | with_unfolding_all rfl)) ?_ | with_reducible refine Ev.bin ?_ | with_reducible refine Ev.flt ?_ | with_reducible refine Es.cons ?_ | with_reducible refine Ex.assign ?_ (by with_unfolding_all rfl)))
    refine Bi.divF nz6 ?_
    (repeat (first | with_reducible refine Ev.flt ?_))
    refine Bi.modF nz1 ?_
    (repeat (first | with_reducible refine Ev.nm (by assumption) (by with_unfolding_all rfl) (by repeat (first | with_reducible assumption | with_reducible exact LM.put_same _ _ _ | with_reducible refine (LM.put_ne (by decide)).trans ?_ | with_unfolding_all rfl)) ?_ | with_reducible refine Ev.tuple ?_ | with_reducible refine Es.cons ?_ | with_reducible refine Ar.cons ?_ (by with_unfolding_all rfl) | with_reducible refine Ar.nil ?_ | with_reducible refine Sn.nm (by assumption) (by with_unfolding_all rfl) ?_ | with_reducible refine Ex.ret ?_))
    refine ⟨by simp, fun a ha => ?_⟩
    rw [hh]
    exact hP a s ha
  · rw [sc_rgb_to_hls]; rfl
  · rw [sc_rgb_to_hls]; rfl
  · rw [sc_rgb_to_hls]; rfl
end
end Mine
end PartF2
section PartP0
open PySem
set_option linter.unusedVariables false
set_option maxRecDepth 100000
set_option exponentiation.threshold 3000
namespace Mine
open PySem.Float64
theorem nab {x : Int} {n : Nat} (h1 : -(n : Int) < x) (h2 : x < n) : x.natAbs < n := by omega
theorem nle {x : Int} {n : Nat} (h1 : -(n : Int) ≤ x) (h2 : x ≤ n) : x.natAbs ≤ n := by omega
/- x is z 4096ths, exactly, and no -0 -/
noncomputable def Fx (x : UInt64) (z : Int) : Prop := ∃ t, x = pack (decide (z < 0)) t ∧ t < infMag ∧ Float64.V t = z.natAbs * 2 ^ 1062 ∧ z.natAbs < 2 ^ 53
theorem V_inj {t u : Nat} (h : Float64.V t = Float64.V u) : t = u := by
  rcases Nat.lt_trichotomy t u with q | q | q
  · exact absurd h (Nat.ne_of_lt (V_lt q))
  · exact q
  · exact absurd h.symm (Nat.ne_of_lt (V_lt q))
theorem Fx.inj {x y : UInt64} {z : Int} (h : Fx x z) (k : Fx y z) : x = y := by
  obtain ⟨t, e, _, v, _⟩ := h
  obtain ⟨u, f, _, v', _⟩ := k
  rw [e, f, V_inj (v.trans v'.symm)]
theorem exists_V {n : Nat} (h : n < 2 ^ 53) : ∃ t, t < infMag ∧ Float64.V t = n * 2 ^ 1062 := by
  by_cases h0 : n = 0
  · exact ⟨0, by decide, by rw [h0, V_zero]⟩
  have hl1 : 2 ^ n.log2 ≤ n := Nat.log2_self_le h0
  have hl2 : n < 2 ^ (n.log2 + 1) := Nat.lt_log2_self
  have hL : n.log2 ≤ 52 := by
    have : n.log2 < 53 := (Nat.log2_lt h0).mpr h
    lia
  generalize n.log2 = L at *
  obtain ⟨j, hj⟩ : ∃ j, L + j = 52 := ⟨52 - L, by lia⟩
  have hq1 : 2 ^ 52 ≤ n * 2 ^ j := by rw [← hj, Nat.pow_add]; exact Nat.mul_le_mul_right _ hl1
  have hq2 : n * 2 ^ j < 2 ^ 53 := by
    rw [show (53 : Nat) = (L + 1) + j by lia, Nat.pow_add]; exact Nat.mul_lt_mul_of_pos_right hl2 (Nat.two_pow_pos _)
  refine ⟨(1062 - j) * 2 ^ 52 + n * 2 ^ j, ?_, ?_⟩
  · have : (1062 - j) * 2 ^ 52 ≤ 1062 * 2 ^ 52 := Nat.mul_le_mul_right _ (by lia)
    have e : infMag = 2047 * 2 ^ 52 := rfl
    rw [e]; lia
  · rw [V_at (Nat.le_of_lt hq2) (.inl hq1), Nat.mul_assoc, ← Nat.pow_add]
    congr 2; lia
theorem small {n : Nat} (h : n < 2 ^ 53) : 2 * (n * 2 ^ 1062) < (2 ^ 54 - 1) * 2 ^ 2045 := by
  have h1 : n * 2 ^ 1062 < 2 ^ 53 * 2 ^ 1062 := Nat.mul_lt_mul_of_pos_right h (Nat.two_pow_pos _)
  rw [← Nat.pow_add] at h1
  have h2 : 2 * (n * 2 ^ 1062) < 2 ^ 1116 := by
    rw [show (2 : Nat) ^ 1116 = 2 * 2 ^ (53 + 1062) by rw [← Nat.pow_succ']]
    exact Nat.mul_lt_mul_of_pos_left h1 (by decide)
  have h3 : (2 : Nat) ^ 1116 ≤ 1 * 2 ^ 2045 := by rw [Nat.one_mul]; exact Nat.pow_le_pow_right (by decide) (by decide)
  exact Nat.lt_of_lt_of_le h2 (Nat.le_trans h3 (Nat.mul_le_mul_right _ (by decide)))
/- what is right, and exact -/
theorem Fx.of {r : UInt64} {neg : Bool} {W D : Nat} {z : Int} (h : Right r neg W D) (hD : 0 < D) (hW : W = D * (z.natAbs * 2 ^ 1062)) (hn : neg = decide (z < 0)) (hz : z.natAbs < 2 ^ 53) : Fx r z := by
  obtain ⟨t, e, hle, hinf, hr⟩ := h
  obtain ⟨t0, h0, hV⟩ := exists_V hz
  have hlt : t < infMag := by
    rcases Nat.lt_or_eq_of_le hle with q | q
    · exact q
    · have := hinf.mp q
      rw [hW, show 2 * (D * (z.natAbs * 2 ^ 1062)) = D * (2 * (z.natAbs * 2 ^ 1062)) by rw [Nat.mul_left_comm]] at this
      have := Nat.le_of_mul_le_mul_left this hD
      exact absurd (small hz) (Nat.not_lt.mpr this)
  have d0 := (hr hlt t0).1
  have z0 : dist W (D * Float64.V t0) = 0 := by rw [hV, hW]; unfold dist; lia
  rw [z0] at d0
  have z1 : W = D * Float64.V t := by unfold dist at d0; lia
  refine ⟨t, by rw [e, hn], hlt, ?_, hz⟩
  exact (Nat.eq_of_mul_eq_mul_left hD (hW.symm.trans z1)).symm
theorem Fx.dec {x : UInt64} {z : Int} (h : Fx x z) : ∃ m e, decode x = .fin (decide (z < 0)) m e ∧ val x = z * 2 ^ 1062 := by
  obtain ⟨t, rfl, hlt, hv, _⟩ := h
  obtain ⟨m, e, hd, _⟩ := decode_pack (decide (z < 0)) hlt
  refine ⟨m, e, hd, ?_⟩
  rw [val_pack _ hlt, hv]
  unfold sgn
  by_cases q : z < 0
  · rw [decide_eq_true q, if_pos rfl]
    rw [Int.natCast_mul, Int.ofNat_natAbs_of_nonpos (by lia), Int.neg_mul, Int.neg_neg]; rfl
  · rw [decide_eq_false q, if_neg Bool.false_ne_true]
    rw [Int.natCast_mul, Int.natAbs_of_nonneg (by lia)]; rfl
theorem U_pos : (0 : Int) < 2 ^ 1062 := Int.pow_pos (by decide)
theorem natAbs_U (z : Int) : (z * 2 ^ 1062).natAbs = z.natAbs * 2 ^ 1062 := by
  rw [Int.natAbs_mul, Int.natAbs_pow]; rfl
theorem zero_Fx : Fx (zero false) 0 := ⟨0, rfl, by decide, by rw [V_zero]; simp, by decide⟩
theorem Fx.add {x y : UInt64} {a b : Int} (hx : Fx x a) (hy : Fx y b) (h : (a + b).natAbs < 2 ^ 53) : Fx (add x y) (a + b) := by
  obtain ⟨m, e, dx, vx⟩ := hx.dec
  obtain ⟨k, f, dy, vy⟩ := hy.dec
  obtain ⟨h0, h1⟩ := add_right dx dy
  rw [vx, vy, ← Int.add_mul] at h0 h1
  by_cases q : a + b = 0
  · rw [h0 (by rw [q]; simp), q]
    have : (decide (a < 0) && decide (b < 0)) = false := by
      by_cases q1 : a < 0 <;> by_cases q2 : b < 0 <;> simp [q1, q2] <;> lia
    rw [this]; exact zero_Fx
  · refine Fx.of (h1 fun z => q ?_) (by decide) (by rw [natAbs_U, Nat.one_mul]) ?_ h
    · exact (Int.mul_eq_zero.mp z).resolve_right (Int.ne_of_gt U_pos)
    · congr 1
      refine propext ⟨fun z => ?_, fun z => ?_⟩
      · exact Int.not_le.mp fun w => absurd (Int.mul_nonneg w (Int.le_of_lt U_pos)) (Int.not_le.mpr z)
      · exact Int.mul_neg_of_neg_of_pos z U_pos
theorem Fx.sub {x y : UInt64} {a b : Int} (hx : Fx x a) (hy : Fx y b) (h : (a - b).natAbs < 2 ^ 53) : Fx (sub x y) (a - b) := by
  obtain ⟨m, e, dx, vx⟩ := hx.dec
  obtain ⟨k, f, dy, vy⟩ := hy.dec
  obtain ⟨h0, h1⟩ := sub_right dx dy
  rw [vx, vy, ← Int.sub_mul] at h0 h1
  by_cases q : a - b = 0
  · rw [h0 (by rw [q]; simp), q]
    have : (decide (a < 0) && !decide (b < 0)) = false := by
      by_cases q1 : a < 0 <;> by_cases q2 : b < 0 <;> simp [q1, q2] <;> lia
    rw [this]; exact zero_Fx
  · refine Fx.of (h1 fun z => q ?_) (by decide) (by rw [natAbs_U, Nat.one_mul]) ?_ h
    · exact (Int.mul_eq_zero.mp z).resolve_right (Int.ne_of_gt U_pos)
    · congr 1
      refine propext ⟨fun z => ?_, fun z => ?_⟩
      · exact Int.not_le.mp fun w => absurd (Int.mul_nonneg w (Int.le_of_lt U_pos)) (Int.not_le.mpr z)
      · exact Int.mul_neg_of_neg_of_pos z U_pos
theorem pow_split : (2 : Nat) ^ 1074 = 4096 * 2 ^ 1062 := by rw [show (4096 : Nat) = 2 ^ 12 from rfl, ← Nat.pow_add]
theorem Fx.mul {x y : UInt64} {a b c : Int} (hx : Fx x a) (hy : Fx y b) (ha : 0 ≤ a) (hb : 0 ≤ b) (h : a * b = 4096 * c) (hc : c.natAbs < 2 ^ 53) : Fx (mul x y) c := by
  obtain ⟨m, e, dx, vx⟩ := hx.dec
  obtain ⟨k, f, dy, vy⟩ := hy.dec
  have hr := mul_right dx dy
  have c0 : 0 ≤ c := by have := Int.mul_nonneg ha hb; lia
  refine Fx.of hr (Nat.two_pow_pos _) ?_ ?_ hc
  · rw [vx, vy, natAbs_U, natAbs_U, pow_split]
    have : a.natAbs * b.natAbs = 4096 * c.natAbs := by rw [← Int.natAbs_mul, h, Int.natAbs_mul]; rfl
    rw [show a.natAbs * 2 ^ 1062 * (b.natAbs * 2 ^ 1062) = (a.natAbs * b.natAbs) * (2 ^ 1062 * 2 ^ 1062) by ac_rfl, this]
    ac_rfl
  · rw [decide_eq_false (by lia), decide_eq_false (by lia), decide_eq_false (by lia)]; rfl
theorem Fx.div {x y : UInt64} {a b c : Int} (hx : Fx x a) (hy : Fx y b) (hb : 0 < b) (h : a * 4096 = b * c) (hc : c.natAbs < 2 ^ 53) : Fx (div x y) c := by
  obtain ⟨m, e, dx, vx⟩ := hx.dec
  obtain ⟨k, f, dy, vy⟩ := hy.dec
  have hk : k ≠ 0 := fun q => by
    have := val_eq dy
    rw [vy, q, Nat.zero_mul] at this
    have z : sgn (decide (b < 0)) 0 = 0 := by unfold sgn; split <;> rfl
    rw [z] at this
    exact absurd this (Int.ne_of_gt (Int.mul_pos hb U_pos))
  have hr := div_right dx dy hk
  have sg : (a < 0 ↔ c < 0) := by
    constructor
    · intro z
      refine Int.not_le.mp fun w => ?_
      have := Int.mul_nonneg (Int.le_of_lt hb) w
      lia
    · intro z
      have := Int.mul_neg_of_pos_of_neg hb z
      lia
  refine Fx.of hr ?_ ?_ ?_ hc
  · rw [vy, natAbs_U]; exact Nat.mul_pos (by lia) (Nat.two_pow_pos _)
  · rw [vx, vy, natAbs_U, natAbs_U, pow_split]
    have : a.natAbs * 4096 = b.natAbs * c.natAbs := by rw [← Int.natAbs_mul, ← h, Int.natAbs_mul]; rfl
    rw [show a.natAbs * 2 ^ 1062 * (4096 * 2 ^ 1062) = (a.natAbs * 4096) * (2 ^ 1062 * 2 ^ 1062) by ac_rfl, this]
    ac_rfl
  · rw [decide_eq_false (by lia : ¬ b < 0)]
    by_cases q : a < 0
    · rw [decide_eq_true q, decide_eq_true (sg.mp q)]; rfl
    · rw [decide_eq_false q, decide_eq_false (fun w => q (sg.mpr w))]; rfl
theorem Fx.cmp {x y : UInt64} {a b : Int} (hx : Fx x a) (hy : Fx y b) : cmp x y = some (compare a b) := by
  obtain ⟨m, e, dx, vx⟩ := hx.dec
  obtain ⟨k, f, dy, vy⟩ := hy.dec
  rw [cmp_right dx dy, vx, vy]
  congr 1
  show compareOfLessAndEq _ _ = compareOfLessAndEq _ _
  unfold compareOfLessAndEq
  have h1 : (a * 2 ^ 1062 < b * 2 ^ 1062) = (a < b) := propext (Int.mul_lt_mul_right U_pos)
  have h2 : (a * 2 ^ 1062 = b * 2 ^ 1062) = (a = b) := propext (Int.mul_eq_mul_right_iff (Int.ne_of_gt U_pos))
  simp only [h1, h2]
theorem Fx.frac {n d : Nat} {z : Int} (hd : 0 < d) (hz0 : 0 ≤ z) (h : (n : Int) * 4096 = z * d) (hz : z.natAbs < 2 ^ 53) : Fx (ofFrac false n d) z := by
  refine Fx.of (ofFrac_right (W := n * 2 ^ 1074) (D := d) hd rfl hd) hd ?_ (by rw [decide_eq_false (by lia)]) hz
  have : n * 4096 = z.natAbs * d := by
    have := congrArg Int.natAbs h
    rw [Int.natAbs_mul, Int.natAbs_mul] at this
    exact this
  rw [pow_split, ← Nat.mul_assoc, this]; ac_rfl
theorem Fx.isZero {x : UInt64} {z : Int} (hx : Fx x z) (h : z ≠ 0) : isZero x = false := by
  obtain ⟨m, e, dx, vx⟩ := hx.dec
  unfold Float64.isZero
  rw [dx]
  cases m with
  | zero =>
    have := val_eq dx
    rw [vx, Nat.zero_mul] at this
    have q : sgn (decide (z < 0)) 0 = 0 := by unfold sgn; split <;> rfl
    rw [q] at this
    exact absurd ((Int.mul_eq_zero.mp this).resolve_right (Int.ne_of_gt U_pos)) h
  | succ n => rfl
end Mine
end PartP0
section PartP1
open PySem PySem.W PyProof.Rows
set_option linter.unusedVariables false
set_option maxRecDepth 100000
namespace Mine
open PySem.Float64 (ofFrac sub add mul div cmp)
noncomputable def fl (n : Nat) : UInt64 := ofFrac false n 64
theorem fl_Fx {n : Nat} (h : n ≤ 64) : Fx (fl n) (64 * n) := Fx.frac (by decide) (by exact Int.natCast_nonneg _) (by lia) (by exact nab (by lia) (by lia))
theorem fl_cmp {i j : Nat} (hi : i ≤ 64) (hj : j ≤ 64) : cmp (fl i) (fl j) = some (compare i j) := by
  rw [(fl_Fx hi).cmp (fl_Fx hj)]
  congr 1
  show compareOfLessAndEq _ _ = compareOfLessAndEq _ _
  unfold compareOfLessAndEq
  have h1 : ((64 * (i : Int)) < 64 * j) = (i < j) := propext (by lia)
  have h2 : ((64 * (i : Int)) = 64 * j) = (i = j) := propext (by lia)
  simp only [h1, h2]
theorem fl_lt {i j : Nat} (hi : i ≤ 64) (hj : j ≤ 64) : (cmp (fl i) (fl j) == some .lt) = decide (i < j) := by
  rw [fl_cmp hi hj, Bool.eq_iff_iff]
  simp [Nat.compare_eq_lt]
theorem fl_eq {i j : Nat} (hi : i ≤ 64) (hj : j ≤ 64) : (cmp (fl i) (fl j) == some .eq) = decide (i = j) := by
  rw [fl_cmp hi hj, Bool.eq_iff_iff]
  simp [Nat.compare_eq_eq]
noncomputable def trI (h : UInt64) : Option Int := match Float64.decode (mul h 4618441417868443648) with
  | .fin sg k e => some (Float64.truncOf sg k e)
  | _ => none
theorem trI_fl : ∀ p : _root_.Fin 64, trI (fl p) = some ((6 * p.val / 64 : Nat) : Int) := by decide +kernel
theorem mod_fl : ∀ p : _root_.Fin 64, (Float64.divmod (fl p) 4607182418800017408).snd = fl p := by decide +kernel
theorem mod_neg : ∀ p : _root_.Fin 11, (Float64.divmod (sub (fl (53 + p)) 4607182418800017408) 4607182418800017408).snd = fl (53 + p) := by decide +kernel
theorem Fx1 : Fx 4607182418800017408 4096 := (show (4607182418800017408 : UInt64) = ofFrac false 1 1 by decide +kernel) ▸ Fx.frac (by decide) (by exact Int.natCast_nonneg _) (by lia) (by exact Nat.le_add_left _ _)
theorem Fx2 : Fx 4611686018427387904 8192 := (show (4611686018427387904 : UInt64) = ofFrac false 2 1 by decide +kernel) ▸ Fx.frac (by decide) (by exact Int.natCast_nonneg _) (by lia) (by exact Nat.le_add_left _ _)
theorem Fx4 : Fx 4616189618054758400 16384 := (show (4616189618054758400 : UInt64) = ofFrac false 4 1 by decide +kernel) ▸ Fx.frac (by decide) (by exact Int.natCast_nonneg _) (by lia) (by exact Nat.le_add_left _ _)
theorem Fx6 : Fx 4618441417868443648 24576 := (show (4618441417868443648 : UInt64) = ofFrac false 6 1 by decide +kernel) ▸ Fx.frac (by decide) (by exact Int.natCast_nonneg _) (by lia) (by exact Nat.le_add_left _ _)
theorem FxI {i : Int} (h0 : 0 ≤ i) (h6 : i < 6) : Fx (Float64.ofInt i) (4096 * i) := by
  unfold Float64.ofInt
  rw [decide_eq_false (by lia)]
  exact Fx.frac (by decide) (by lia) (by lia) (by lia)
theorem cmp_gt (a b : Int) : (some (compare a b) == some Ordering.gt) = decide (b < a) := by
  rw [Bool.eq_iff_iff]; simp [Int.compare_eq_gt]
theorem cmp_lt (a b : Int) : (some (compare a b) == some Ordering.lt) = decide (a < b) := by
  rw [Bool.eq_iff_iff]; simp [Int.compare_eq_lt]
theorem cmp_eq (a b : Int) : (some (compare a b) == some Ordering.eq) = decide (a = b) := by
  rw [Bool.eq_iff_iff]; simp [Int.compare_eq_eq]
theorem max_Fx {x y z : UInt64} {a b d M : Int} (hx : Fx x a) (hy : Fx y b) (hz : Fx z d) (h1 : a ≤ M) (h2 : b ≤ M) (h3 : d ≤ M) (h : a = M ∨ b = M ∨ d = M) : Fx (maxF3 x y z) M := by
  unfold maxF3
  rw [hy.cmp hx, hz.cmp hy, hz.cmp hx, cmp_gt, cmp_gt, cmp_gt]
  simp only [decide_eq_true_eq]
  split <;> split
  · exact (show d = M by lia) ▸ hz
  · exact (show b = M by lia) ▸ hy
  · exact (show d = M by lia) ▸ hz
  · exact (show a = M by lia) ▸ hx
theorem min_Fx {x y z : UInt64} {a b d M : Int} (hx : Fx x a) (hy : Fx y b) (hz : Fx z d) (h1 : M ≤ a) (h2 : M ≤ b) (h3 : M ≤ d) (h : a = M ∨ b = M ∨ d = M) : Fx (minF3 x y z) M := by
  unfold minF3
  rw [hy.cmp hx, hz.cmp hy, hz.cmp hx, cmp_lt, cmp_lt, cmp_lt]
  simp only [decide_eq_true_eq]
  split <;> split
  · exact (show d = M by lia) ▸ hz
  · exact (show b = M by lia) ▸ hy
  · exact (show d = M by lia) ▸ hz
  · exact (show a = M by lia) ▸ hx
/- a fact laid aside -/
noncomputable def Hid (p : Prop) : Prop := p
/- hls of exact colours -/
theorem hls_Fx {x y z : UInt64} {a b d M m r g l : Int} (hx : Fx x a) (hy : Fx y b) (hz : Fx z d) (M1 : M = a ∨ M = b ∨ M = d) (m1 : a = m ∨ b = m ∨ d = m)
    (ha : m ≤ a ∧ a ≤ M) (hb : m ≤ b ∧ b ≤ M) (hd : m ≤ d ∧ d ≤ M) (h0 : 0 ≤ m) (hlt : m < M) (hM : M ≤ 4096) (er : (M - a) * 4096 = (M - m) * r) (eg : (M - b) * 4096 = (M - m) * g) (el : (M - d) * 4096 = (M - m) * l)
    (br : r.natAbs ≤ 4096) (bg : g.natAbs ≤ 4096) (bl : l.natAbs ≤ 4096) {L : Nat} (hL : M + m = 128 * L) (h8 : M + m ≠ 8192) {p : Nat} (hp : p < 64)
    (hh : (if a = M then l - g else if b = M then 8192 + r - l else 16384 + g - r) = 384 * p ∨ (53 ≤ p ∧ (if a = M then l - g else if b = M then 8192 + r - l else 16384 + g - r) = 384 * p - 24576)) :
    hlsOk x y z = true ∧ hlsH x y z = fl p ∧ hlsL x y z = fl L := by
  replace hh : Hid _ := hh
  have r1 : -4096 ≤ r := by lia
  have r2 : r ≤ 4096 := by lia
  have g1 : -4096 ≤ g := by lia
  have g2 : g ≤ 4096 := by lia
  have l1 : -4096 ≤ l := by lia
  have l2 : l ≤ 4096 := by lia
  clear br bg bl
  have mx : Fx (maxF3 x y z) M := max_Fx hx hy hz ha.2 hb.2 hd.2 (by lia)
  have mn : Fx (minF3 x y z) m := min_Fx hx hy hz ha.1 hb.1 hd.1 m1
  clear M1 m1
  have sm : Fx (add (maxF3 x y z) (minF3 x y z)) (M + m) := mx.add mn (nab (by omega) (by lia))
  have rg : Fx (hlsR x y z) (M - m) := mx.sub mn (nab (by lia) (by lia))
  have ll : Fx (hlsL x y z) (64 * L) := sm.div Fx2 (by decide) (by lia) (nab (by exact Int.natCast_nonneg _) (by lia))
  have c1 : Fx (div (sub (maxF3 x y z) x) (hlsR x y z)) r := (mx.sub hx (nab (by omega) (by lia))).div rg (by lia) er (nab (by lia) (by lia))
  have c2 : Fx (div (sub (maxF3 x y z) y) (hlsR x y z)) g := (mx.sub hy (nab (by lia) (by lia))).div rg (by lia) eg (nab (by lia) (by lia))
  have c3 : Fx (div (sub (maxF3 x y z) z) (hlsR x y z)) l := (mx.sub hz (nab (by lia) (by lia))).div rg (by lia) el (nab (by lia) (by lia))
  refine ⟨?_, ?_, ll.inj (fl_Fx (by lia))⟩
  · unfold hlsOk
    rw [mn.cmp mx, cmp_eq, decide_eq_false (by lia), rg.isZero (by lia), sm.isZero (by lia), ((Fx2.sub mx (nab (by lia) (by lia))).sub mn (nab (by lia) (by omega))).isZero (by lia)]
    simp
  · unfold hlsH
    simp only
    rw [hx.cmp mx, hy.cmp mx, cmp_eq, cmp_eq]
    simp only [decide_eq_true_eq]
    have key : ∀ {h : UInt64} {z : Int}, Fx h z → (z = 384 * p ∨ (53 ≤ p ∧ z = 384 * p - 24576)) → (Float64.divmod (div h 4618441417868443648) 4607182418800017408).snd = fl p := by
      intro h z hz hh
      rcases hh with rfl | ⟨h53, rfl⟩
      · have : div h 4618441417868443648 = fl p := (hz.div (c := 64 * p) Fx6 (by decide) (by lia) (nab (by lia) (by lia))).inj (fl_Fx (by exact Nat.le_of_lt (by assumption)))
        rw [this]; exact mod_fl ⟨p, hp⟩
      · obtain ⟨j, rfl⟩ : ∃ j, p = 53 + j := ⟨p - 53, by lia⟩
        have : div h 4618441417868443648 = sub (fl (53 + j)) 4607182418800017408 := (hz.div (c := 64 * ((53 + j : Nat) : Int) - 4096) Fx6 (by decide) (by lia) (nab (by lia) (by lia))).inj ((fl_Fx (by exact Nat.le_of_lt (by assumption))).sub Fx1 (nab (by lia) (by lia)))
        rw [this]; exact mod_neg ⟨j, by lia⟩
    unfold Hid at hh
    split
    · rename_i q; rw [if_pos q] at hh
      exact key (c3.sub c2 (nab (by clear hh; lia) (by clear hh; lia))) hh
    · rename_i q; rw [if_neg q] at hh
      split
      · rename_i q'; rw [if_pos q'] at hh
        exact key ((Fx2.add c1 (nab (by clear hh; lia) (by clear hh; lia))).sub c3 (nab (by clear hh; lia) (by clear hh; lia))) hh
      · rename_i q'; rw [if_neg q'] at hh
        exact key ((Fx4.add c2 (nab (by clear hh; lia) (by clear hh; lia))).sub c1 (nab (by clear hh; lia) (by clear hh; lia))) hh
end Mine
end PartP1
section PartP2
open PySem PySem.W PyProof.Rows
set_option linter.unusedVariables false
set_option maxRecDepth 100000
namespace Mine
open PySem.Float64 (ofFrac sub add mul div cmp)
theorem paint {p b q : Nat} (hp : p < 64) (hb1 : 1 ≤ b) (hb8 : b ≤ 8) (hq1 : 1 ≤ q) (hq4 : q ≤ 4) :
    ∃ r g l, hsvT ((6 * p / 64 : Nat) : Int) (fl p) (ofFrac false q 4) (ofFrac false b 8) = [.flt r, .flt g, .flt l] ∧ hlsOk r g l = true ∧ hlsH r g l = fl p ∧ hlsL r g l = fl (b * (8 - q)) := by
  obtain ⟨i, hi⟩ : ∃ i, i = 6 * p / 64 := ⟨_, rfl⟩
  obtain ⟨F, hF⟩ : ∃ F, F = 6 * p % 64 := ⟨_, rfl⟩
  have h6 : i < 6 := by lia
  have eF : 6 * p = 64 * i + F := by lia
  have hF64 : F < 64 := by lia
  obtain ⟨X, hX⟩ : ∃ X : Int, X = b * q := ⟨_, rfl⟩
  obtain ⟨Y, hY⟩ : ∃ Y : Int, Y = X * F := ⟨_, rfl⟩
  have X1 : 1 ≤ X := by
    have : 1 * 1 ≤ b * q := Nat.mul_le_mul hb1 hq1
    rw [hX]; exact_mod_cast this
  have X4 : X ≤ 4 * b := by
    have : b * q ≤ b * 4 := Nat.mul_le_mul_left _ hq4
    rw [hX]; have : ((b * q : Nat) : Int) ≤ ((b * 4 : Nat) : Int) := by exact_mod_cast this
    push_cast at this; lia
  have Y0 : 0 ≤ Y := by rw [hY]; exact Int.mul_nonneg (by lia) (by exact Int.natCast_nonneg _)
  have Y1 : Y ≤ 63 * X := by
    rw [hY, Int.mul_comm 63]; exact Int.mul_le_mul_of_nonneg_left (by lia) (by lia)
  have qF0 : (0 : Int) ≤ q * F := Int.mul_nonneg (by exact Int.natCast_nonneg _) (by exact Int.natCast_nonneg _)
  have qF1 : (q : Int) * F ≤ 4 * 63 := by
    have : q * F ≤ 4 * 63 := Nat.mul_le_mul hq4 (by exact Nat.le_of_lt_succ (by assumption))
    exact_mod_cast this
  have bqF : (b : Int) * (q * F) = Y := by rw [hY, hX, Int.mul_assoc]
  have fh : Fx (fl p) (64 * p) := fl_Fx (by exact Nat.le_of_lt (by assumption))
  have fs : Fx (ofFrac false q 4) (1024 * q) := Fx.frac (by decide) (by exact Int.natCast_nonneg _) (by lia) (by exact nab (by lia) (by lia))
  have fv : Fx (ofFrac false b 8) (512 * b) := Fx.frac (by decide) (by exact Int.natCast_nonneg _) (by lia) (by exact nab (by lia) (by lia))
  have ff : Fx (sub (mul (fl p) 4618441417868443648) (Float64.ofInt (i : Int))) (64 * F) := by
    have := (fh.mul (c := 384 * p) Fx6 (by exact Int.natCast_nonneg _) (by decide) (by lia) (by exact nab (by lia) (by lia))).sub (FxI (i := i) (by exact Int.natCast_nonneg _) (by lia)) (by exact nab (by lia) (by lia))
    have e : (384 * (p : Int) - 4096 * i) = 64 * F := by lia
    rw [e] at this; exact this
  have fp : Fx (mul (ofFrac false b 8) (sub 4607182418800017408 (ofFrac false q 4))) (512 * b - 128 * X) :=
    fv.mul (Fx1.sub fs (nab (by lia) (by lia))) (by exact Int.natCast_nonneg _) (by lia) (by rw [hX]; grind) (nab (by lia) (by lia))
  have fsf : Fx (mul (ofFrac false q 4) (sub (mul (fl p) 4618441417868443648) (Float64.ofInt (i : Int)))) (16 * (q * F)) := fs.mul ff (by exact Int.natCast_nonneg _) (by exact Int.natCast_nonneg _) (by grind) (nab (by exact Int.natCast_nonneg _) (by lia))
  have fq : Fx (mul (ofFrac false b 8) (sub 4607182418800017408 (mul (ofFrac false q 4) (sub (mul (fl p) 4618441417868443648) (Float64.ofInt (i : Int)))))) (512 * b - 2 * Y) :=
    fv.mul (Fx1.sub fsf (nab (by lia) (by lia))) (by exact Int.natCast_nonneg _) (by lia) (by rw [← bqF]; grind) (nab (by lia) (by lia))
  have ft : Fx (mul (ofFrac false b 8) (sub 4607182418800017408 (mul (ofFrac false q 4) (sub 4607182418800017408 (sub (mul (fl p) 4618441417868443648) (Float64.ofInt (i : Int))))))) (512 * b - 128 * X + 2 * Y) :=
    fv.mul (Fx1.sub (fs.mul (c := 1024 * q - 16 * (q * F)) (Fx1.sub ff (nab (by lia) (by lia))) (by exact Int.natCast_nonneg _) (by lia) (by grind) (nab (by lia) (by lia))) (nab (by lia) (by lia))) (by exact Int.natCast_nonneg _) (by lia) (by rw [← bqF, hX]; grind) (nab (by lia) (by lia))
  rw [← hi]
  generalize hfq : mul (ofFrac false b 8) (sub 4607182418800017408 (mul (ofFrac false q 4) (sub (mul (fl p) 4618441417868443648) (Float64.ofInt (i : Int))))) = Q at fq
  generalize hft : mul (ofFrac false b 8) (sub 4607182418800017408 (mul (ofFrac false q 4) (sub 4607182418800017408 (sub (mul (fl p) 4618441417868443648) (Float64.ofInt (i : Int)))))) = T at ft
  generalize hfp : mul (ofFrac false b 8) (sub 4607182418800017408 (ofFrac false q 4)) = Pp at fp
  generalize hfv : ofFrac false b 8 = Vv at *
  have hL : (512 * b : Int) + (512 * b - 128 * X) = 128 * ((b * (8 - q) : Nat) : Int) := by
    have : ((b * (8 - q) : Nat) : Int) = b * 8 - b * q := by
      rw [Nat.mul_sub, Int.ofNat_sub (Nat.mul_le_mul_left _ (by exact Nat.le_trans (by assumption) (by decide)))]; push_cast; rfl
    rw [this, hX]; lia
  have eT : (512 * (b : Int) - (512 * b - 128 * X + 2 * Y)) * 4096 = (512 * b - (512 * b - 128 * X)) * (4096 - 64 * F) := by rw [hY]; grind
  have eQ : (512 * (b : Int) - (512 * b - 2 * Y)) * 4096 = (512 * b - (512 * b - 128 * X)) * (64 * F) := by rw [hY]; grind
  have eP : (512 * (b : Int) - (512 * b - 128 * X)) * 4096 = (512 * b - (512 * b - 128 * X)) * 4096 := rfl
  have eV : (512 * (b : Int) - 512 * b) * 4096 = (512 * b - (512 * b - 128 * X)) * 0 := by lia
  have YF : (512 * (b : Int) - 2 * Y = 512 * b) ↔ F = 0 := by
    constructor
    · intro h
      have : X * F = 0 := by lia
      have := (Int.mul_eq_zero.mp this).resolve_left (by lia)
      lia
    · intro h; rw [hY, h]; simp
  have shape : hsvT (i : Int) (fl p) (ofFrac false q 4) Vv = if (i : Int) = 0 then [.flt Vv, .flt T, .flt Pp] else if (i : Int) = 1 then [.flt Q, .flt Vv, .flt Pp] else if (i : Int) = 2 then [.flt Pp, .flt Vv, .flt T] else if (i : Int) = 3 then [.flt Pp, .flt Q, .flt Vv] else if (i : Int) = 4 then [.flt T, .flt Pp, .flt Vv] else [.flt Vv, .flt Pp, .flt Q] := by
    rw [← hfq, ← hft, ← hfp]; rfl
  rw [shape]
  clear shape hfq hft hfp hfv fsf ff fs fh
  have mV : 512 * (b : Int) - 128 * X ≤ 512 * b ∧ 512 * (b : Int) ≤ 512 * b := ⟨by lia, Int.le_refl _⟩
  have mP : 512 * (b : Int) - 128 * X ≤ 512 * b - 128 * X ∧ 512 * (b : Int) - 128 * X ≤ 512 * b := ⟨Int.le_refl _, mV.1⟩
  have mT : 512 * (b : Int) - 128 * X ≤ 512 * b - 128 * X + 2 * Y ∧ 512 * (b : Int) - 128 * X + 2 * Y ≤ 512 * b := by lia
  have mQ : 512 * (b : Int) - 128 * X ≤ 512 * b - 2 * Y ∧ 512 * (b : Int) - 2 * Y ≤ 512 * b := by lia
  have m0 : 0 ≤ 512 * (b : Int) - 128 * X := by lia
  have mM : 512 * (b : Int) - 128 * X < 512 * b := by lia
  have M4 : 512 * (b : Int) ≤ 4096 := by lia
  have n0 : (0 : Int).natAbs ≤ 4096 := by decide
  have n1 : (4096 : Int).natAbs ≤ 4096 := by decide
  have nF : (64 * (F : Int)).natAbs ≤ 4096 := nle (by exact Int.natCast_nonneg _) (by lia)
  have nG : (4096 - 64 * (F : Int)).natAbs ≤ 4096 := nle (by lia) (by lia)
  have h8 : 512 * (b : Int) + (512 * b - 128 * X) ≠ 8192 := by lia
  have eh : 6 * (p : Int) = 64 * i + F := by lia
  clear qF0 qF1 bqF hX hY X1 X4 hb1 hb8 hq1 hq4 hF
  rcases (by lia : i = 0 ∨ i = 1 ∨ i = 2 ∨ i = 3 ∨ i = 4 ∨ i = 5) with rfl | rfl | rfl | rfl | rfl | rfl
  · exact ⟨_, _, _, rfl, hls_Fx fv ft fp (M := 512 * b) (m := 512 * b - 128 * X) (.inl rfl) (.inr (.inr rfl)) mV mT mP m0 mM M4 eV eT eP n0 nG n1 hL h8 hp (by rw [if_pos rfl]; lia)⟩
  · exact ⟨_, _, _, rfl, hls_Fx fq fv fp (M := 512 * b) (m := 512 * b - 128 * X) (.inr (.inl rfl)) (.inr (.inr rfl)) mQ mV mP m0 mM M4 eQ eV eP nF n0 n1 hL h8 hp (by rw [if_pos rfl]; split <;> lia)⟩
  · exact ⟨_, _, _, rfl, hls_Fx fp fv ft (M := 512 * b) (m := 512 * b - 128 * X) (.inr (.inl rfl)) (.inl rfl) mP mV mT m0 mM M4 eP eV eT n1 n0 nG hL h8 hp (by rw [if_neg (by lia), if_pos rfl]; lia)⟩
  · exact ⟨_, _, _, rfl, hls_Fx fp fq fv (M := 512 * b) (m := 512 * b - 128 * X) (.inr (.inr rfl)) (.inl rfl) mP mQ mV m0 mM M4 eP eQ eV n1 nF n0 hL h8 hp (by rw [if_neg (by lia)]; split <;> lia)⟩
  · exact ⟨_, _, _, rfl, hls_Fx ft fp fv (M := 512 * b) (m := 512 * b - 128 * X) (.inr (.inr rfl)) (.inr (.inl rfl)) mT mP mV m0 mM M4 eT eP eV nG n1 n0 hL h8 hp (by rw [if_neg (by lia), if_neg (by lia)]; lia)⟩
  · exact ⟨_, _, _, rfl, hls_Fx fv fp fq (M := 512 * b) (m := 512 * b - 128 * X) (.inl rfl) (.inr (.inl rfl)) mV mP mQ m0 mM M4 eV eP eQ n0 n1 nF hL h8 hp (by rw [if_pos rfl]; lia)⟩
end Mine
end PartP2
section PartH0
open PySem PySem.W PyProof.Rows
set_option linter.unusedVariables false
set_option maxRecDepth 100000
namespace Mine
/- an item of the heap: its place in memory, its key -/
abbrev It := Addr × Nat
noncomputable def Ky (c : Cx) (N : NM) (x : It) : Prop := x.2 < 4096 ∧ Rd c N x.1 (.tup [.flt (fl (x.2 / 64)), .flt (fl (x.2 % 64))])
noncomputable def rf (x : It) : V := .ref x.1
section
variable {prog : Program} {w : World} {c : Cx} {m : LM} {N : NM} {P : V → LM → NM → Prop}
theorem Rd.put {a b : Addr} {o o1 o2 : AO} (h : Rd c N a o) (hb : N b = some o1) (hne : o ≠ o1) : Rd c (N.put b o2) a o := by
  rcases h with h | h
  · refine .inl ?_
    rw [NM.put_ne fun q => hne ?_]
    · exact h
    · rw [q, hb] at h; exact (Option.some.inj h).symm
  · exact .inr h
theorem Rd.put_new {a b : Addr} {o o2 : AO} (h : Rd c N a o) (hb : N b = none) : Rd c (N.put b o2) a o := by
  rcases h with h | h
  · refine .inl ?_
    rw [NM.put_ne fun q => ?_]
    · exact h
    · rw [q, hb] at h; cases h
  · exact .inr h
theorem Ky.put {x : It} {b : Addr} {ds : List V} {o : AO} (h : Ky c N x) (hb : N b = some (.list ds)) : Ky c (N.put b o) x := ⟨h.1, h.2.put hb (by simp)⟩
theorem Ky.ext {c' : Cx} {x : It} (h : Ky c N x) (hF : ∀ a o, c.F a = some o → c'.F a = some o) : Ky c' N x := ⟨h.1, h.2.imp id (hF _ _)⟩
theorem cmpL2 {a b a' b' : UInt64} (h1 : (Float64.cmp a a == some .eq) = true) (h2 : (Float64.cmp b b == some .eq) = true) : CmpL [.flt a, .flt b] [.flt a', .flt b'] := ⟨h1, fun _ => ⟨h2, fun _ => trivial⟩⟩
theorem len2 (a b a' b' : V) : [a, b].length = [a', b'].length := rfl
theorem lexL2 (a b a' b' : V) : lexL [a, b] [a', b'] = if vEq a a' = true then (if vEq b b' = true then false else vLt b b') else vLt a a' := rfl
theorem vEq_flt (a b : UInt64) : vEq (.flt a) (.flt b) = (Float64.cmp a b == some .eq) := rfl
theorem vLt_flt (a b : UInt64) : vLt (.flt a) (.flt b) = (Float64.cmp a b == some .lt) := rfl
theorem vEq_fl {i j : Nat} (hi : i ≤ 64) (hj : j ≤ 64) : vEq (.flt (fl i)) (.flt (fl j)) = decide (i = j) := (vEq_flt _ _).trans (fl_eq hi hj)
theorem vLt_fl {i j : Nat} (hi : i ≤ 64) (hj : j ≤ 64) : vLt (.flt (fl i)) (.flt (fl j)) = decide (i < j) := (vLt_flt _ _).trans (fl_lt hi hj)
theorem lex_key {k j : Nat} (hk : k < 4096) (hj : j < 4096) : lexL [.flt (fl (k / 64)), .flt (fl (k % 64))] [.flt (fl (j / 64)), .flt (fl (j % 64))] = decide (k < j) := by
  rw [lexL2, vEq_fl (by lia) (by lia), vEq_fl (by lia) (by lia), vLt_fl (by lia) (by lia), vLt_fl (by lia) (by lia), Bool.eq_iff_iff]
  simp only [decide_eq_true_eq]
  by_cases h1 : k / 64 = j / 64
  · rw [if_pos h1]
    by_cases h2 : k % 64 = j % 64
    · rw [if_pos h2]; simp; lia
    · rw [if_neg h2, decide_eq_true_eq]; lia
  · rw [if_neg h1, decide_eq_true_eq]; lia
theorem fl_refl {n : Nat} (h : n ≤ 64) : (Float64.cmp (fl n) (fl n) == some .eq) = true := (fl_eq h h).trans (decide_eq_true rfl)
theorem Cp.key {x y : It} (hB : Bs w c.B) (hu : c.A.units < cLine) (hx : Ky c N x) (hy : Ky c N y) (h : P (.bool (decide (x.2 < y.2))) m N) : Cp prog w c .Lt (rf x) (rf y) m N P := by
  refine Cp.ltT hB hu hx.2 hy.2 (len2 _ _ _ _) (cmpL2 (fl_refl (by have := hx.1; lia)) (fl_refl (by lia))) ?_
  rw [lex_key hx.1 hy.1]; exact h
/- down the heap, in so many turns -/
noncomputable def sdf (x : It) : Nat → List It → Nat → List It
  | 0, l, _ => l.set 0 x
  | f + 1, l, pos => if pos = 0 then l.set 0 x
    else if x.2 < (l.getD ((pos - 1) / 2) (0, 0)).2 then sdf x f (l.set pos (l.getD ((pos - 1) / 2) (0, 0))) ((pos - 1) / 2)
    else l.set pos x
theorem sdf_more (x : It) : ∀ (f : Nat) (l : List It) (pos : Nat), pos ≤ f → sdf x f l pos = sdf x pos l pos := fun f => by
  induction f using Nat.strongRecOn with
  | ind f ih =>
    intro l pos h
    cases f with
    | zero => rw [Nat.le_zero.mp h]
    | succ f => cases pos with
      | zero => exact if_pos rfl
      | succ p =>
        show (if p + 1 = 0 then _ else if _ then _ else _) = (if p + 1 = 0 then _ else if _ then _ else _)
        rw [ih f (Nat.lt_succ_self _) _ _ (by lia)]
        by_cases q : p = f
        · subst q; rw [ih p (Nat.lt_succ_self _) _ _ (by lia)]
        · rw [ih p (by lia) _ _ (by lia)]
/- down the heap: what _siftdown makes, from the top on -/
noncomputable def sd (x : It) (l : List It) (pos : Nat) : List It := sdf x pos l pos
theorem sd_eq (x : It) (l : List It) (pos : Nat) : sd x l pos = if pos = 0 then l.set 0 x
    else if x.2 < (l.getD ((pos - 1) / 2) (0, 0)).2 then sd x (l.set pos (l.getD ((pos - 1) / 2) (0, 0))) ((pos - 1) / 2)
    else l.set pos x := by
  unfold sd
  cases pos with
  | zero => rfl
  | succ p =>
    show (if p + 1 = 0 then _ else if _ then _ else _) = _
    rw [sdf_more x p _ _ (by lia)]
end
end Mine
end PartH0
section PartH1
open PySem PySem.W PyProof.Rows
set_option linter.unusedVariables false
set_option maxRecDepth 100000
namespace Mine
section
variable {prog : Program} {w : World} {c : Cx} {m : LM} {N : NM} {P : V → LM → NM → Prop}
theorem Fit.deep {c' : Cx} {k : Nat} {e : Env} (F : Fit w c (k + 1)) (hA : c'.A = c.A.deeper e) (hB : Bs w c'.B) : Fit w c' k :=
  ⟨hB, by rw [hA]; exact F.h, by rw [hA]; have := F.d; show c.A.depth + 1 + k < _; lia, by rw [hA]; have := F.u; show c.A.units + 3 + 4 * k < _; lia⟩
theorem NM.put_put (N : NM) (a : Addr) (o o' : AO) : (N.put a o).put a o' = N.put a o' := by
  funext b; unfold NM.put; split <;> rfl
theorem map_set (l : List It) (i : Nat) (x : It) : (l.map rf).set i (rf x) = (l.set i x).map rf := by rw [List.map_set]
theorem get_rf {l : List It} {i : Nat} (h : i < l.length) : (l.map rf)[i]? = some (rf (l.getD i (0, 0))) := by
  rw [List.getElem?_map, List.getElem?_eq_getElem h]
  simp [List.getD_eq_getElem?_getD, h]
theorem siftdown_spec {hp : Addr} {l : List It} {pos : Nat} (F : Fit w c 1) (hN : N hp = some (.list (l.map rf))) (hk : ∀ x ∈ l, Ky c N x) (hpos : pos < l.length) (hl : l.length ≤ 100)
    (hP : P .none m (N.put hp (.list ((sd (l.getD pos (0, 0)) l pos).map rf)))) : Ca prog w c (.ref 35) [.ref hp, .int 0, .int pos] m N P := by
  refine Ca.fn (names := [Str.ofString "heap", Str.ofString "startpos", Str.ofString "pos"]) F.B (by have := F.d; exact Nat.lt_of_succ_lt (by assumption)) (fn_siftdown w) (cd_siftdown w) (bd_siftdown w) ?_ rfl ?_ ?_ ?_ ?_ ?_ ?_
  · intro vs hl
    obtain ⟨a, b, d, rfl⟩ := vs3 hl
    exact ba_siftdown w a b d
  · rw [sc_siftdown]; decide
  · rw [sc_siftdown]; decide
  · intro c' hA hB hF
    have F0 : Fit w c' 0 := F.deep hA hB
    have hu : c'.A.units < cLine := by have := F0.u; omega
    have E : FE (callEnv (fdOf w 35) c'.L 35) c' (scopeOf (fnStmt 3)) := callEnv_FE w (sc_siftdown w) rfl rfl rfl rfl
    generalize callEnv (fdOf w 35) c'.L 35 = env at E hA
    replace hk : ∀ x ∈ l, Ky c' N x := fun x hx => (hk x hx).ext fun a o e => hF ▸ e
    refine Es.cons ?_
    refine Ex.assign ?_ (by with_unfolding_all rfl)
    (repeat (first | with_reducible refine Ev.nm (by assumption) (by with_unfolding_all rfl) (by repeat (first | with_reducible assumption | with_reducible exact LM.put_same _ _ _ | with_reducible refine (LM.put_ne (by decide)).trans ?_ | with_unfolding_all rfl)) ?_ | with_reducible refine Ev.sub ?_))
    refine Sb.list (.inl hN) (by exact Int.natCast_nonneg _) (by lia) (by rw [Int.toNat_natCast]; exact get_rf hpos) ?_ (by with_unfolding_all rfl)
    (repeat (first | with_reducible refine Es.cons ?_ | with_reducible refine Sn.nm (by assumption) (by with_unfolding_all rfl) ?_))
    refine Ex.while ?_
    have hx0 : Ky c' N (l.getD pos (0, 0)) := hk _ (by rw [List.getD_eq_getElem?_getD, List.getElem?_eq_getElem hpos]; simp)
    refine (?_ : ∀ (pos : Nat) (l : List It) (x : It) (m : LM) (N : NM), N hp = some (.list (l.map rf)) → (∀ x ∈ l, Ky c' N x) → Ky c' N x → pos < l.length → l.length ≤ 100 →
      m (Str.ofString "heap") = some (.ref hp) → m (Str.ofString "startpos") = some (.int 0) → m (Str.ofString "pos") = some (.int pos) → m (Str.ofString "newitem") = some (rf x) →
      P .none _ (N.put hp (.list ((sd x l pos).map rf))) → Wh prog w c' env _ _ m N _ _) pos l (l.getD pos (0, 0)) _ N hN hk hx0 hpos hl (by with_unfolding_all rfl) (by with_unfolding_all rfl) (by with_unfolding_all rfl) (LM.put_same _ _ _) hP
    clear hP hN hk hpos hl hx0 l pos
    intro pos
    induction pos using Nat.strongRecOn with
    | ind pos ih =>
      intro l x m N hN hk hx hpos hl m1 m2 m3 m4 hP
      refine Wh.turn ?_
      (repeat (first | with_reducible refine Ev.nm (by assumption) (by with_unfolding_all rfl) (by repeat (first | with_reducible assumption | with_reducible exact LM.put_same _ _ _ | with_reducible refine (LM.put_ne (by decide)).trans ?_ | with_unfolding_all rfl)) ?_ | with_reducible refine Cp.gtI ?_ | with_reducible refine Tu.bool ?_ | with_reducible refine Te.cmp ?_ (by with_unfolding_all rfl)))
      refine ⟨fun q => ?_, fun q => ?_⟩
      · have q : 0 < pos := by simpa using q
        (repeat (first | with_reducible refine Ev.nm (by assumption) (by with_unfolding_all rfl) (by repeat (first | with_reducible assumption | with_reducible exact LM.put_same _ _ _ | with_reducible refine (LM.put_ne (by decide)).trans ?_ | with_unfolding_all rfl)) ?_ | with_reducible refine Ev.bin ?_ | with_reducible refine Ev.int ?_ | with_reducible refine Ev.sub ?_ | with_reducible refine Bi.subI ?_ | with_reducible refine Bi.shrI (by omega) ?_ | with_reducible refine Es.cons ?_ | with_reducible refine Sn.nm (by assumption) (by with_unfolding_all rfl) ?_ | with_reducible refine Ex.assign ?_ (by with_unfolding_all rfl)))
        have e1 : ((pos : Int) - 1) / 2 = (((pos - 1) / 2 : Nat) : Int) := by lia
        rw [e1]
        skip
        have hpp : (pos - 1) / 2 < l.length := by lia
        refine Sb.list (.inl hN) (by exact Int.natCast_nonneg _) (by lia) (by rw [Int.toNat_natCast]; exact get_rf hpp) ?_ (by with_unfolding_all rfl)
        (repeat (first | with_reducible refine Es.cons ?_ | with_reducible refine Sn.nm (by assumption) (by with_unfolding_all rfl) ?_))
        refine Ex.if ?_
        (repeat (first | with_reducible refine Ev.nm (by assumption) (by with_unfolding_all rfl) (by repeat (first | with_reducible assumption | with_reducible exact LM.put_same _ _ _ | with_reducible refine (LM.put_ne (by decide)).trans ?_ | with_unfolding_all rfl)) ?_ | with_reducible refine Te.cmp ?_ (by with_unfolding_all rfl)))
        have hy : Ky c' N (l.getD ((pos - 1) / 2) (0, 0)) := hk _ (by rw [List.getD_eq_getElem?_getD, List.getElem?_eq_getElem hpp]; simp)
        refine Cp.key hB hu hx hy ?_
        (repeat (first | with_reducible refine Tu.bool ?_))
        refine ⟨fun b => ?_, fun b => ?_⟩
        · have b : x.2 < (l.getD ((pos - 1) / 2) (0, 0)).2 := by simpa using b
          refine Es.cons ?_
          refine Ex.setItem ?_ (by with_unfolding_all rfl)
          (repeat (first | with_reducible refine Ev.nm (by assumption) (by with_unfolding_all rfl) (by repeat (first | with_reducible assumption | with_reducible exact LM.put_same _ _ _ | with_reducible refine (LM.put_ne (by decide)).trans ?_ | with_unfolding_all rfl)) ?_))
          refine ⟨_, _, _, rfl, rfl, hN, by exact Int.natCast_nonneg _, by rw [List.length_map]; lia, by lia, ?_⟩
          rw [Int.toNat_natCast, map_set]
          (repeat (first | with_reducible refine Ev.nm (by assumption) (by with_unfolding_all rfl) (by repeat (first | with_reducible assumption | with_reducible exact LM.put_same _ _ _ | with_reducible refine (LM.put_ne (by decide)).trans ?_ | with_unfolding_all rfl)) ?_ | with_reducible refine Es.cons ?_ | with_reducible refine Sn.nm (by assumption) (by with_unfolding_all rfl) ?_ | with_reducible refine Ex.assign ?_ (by with_unfolding_all rfl) | with_reducible refine Ex.cont ?_))
          refine ih ((pos - 1) / 2) (by lia) _ x _ _ (NM.put_same _ _ _) (fun y hy' => ?_) (hx.put hN) (by rw [List.length_set]; omega) (by rw [List.length_set]; omega) ?_ ?_ (LM.put_same _ _ _) ?_ ?_
          · rcases List.mem_or_eq_of_mem_set hy' with h | h
            · exact (hk y h).put hN
            · rw [h]; exact hy.put hN
          · repeat (first | with_reducible assumption | with_reducible refine (LM.put_ne (by decide)).trans ?_)
          · repeat (first | with_reducible assumption | with_reducible refine (LM.put_ne (by decide)).trans ?_)
          · repeat (first | with_reducible assumption | with_reducible refine (LM.put_ne (by decide)).trans ?_)
          · rw [NM.put_put]
            rw [sd_eq] at hP
            rw [if_neg (by exact Nat.ne_of_gt (by assumption)), if_pos b] at hP
            exact hP
        · have b : ¬ x.2 < (l.getD ((pos - 1) / 2) (0, 0)).2 := by simpa using b
          (repeat (first | with_reducible refine Es.cons ?_ | with_reducible refine Es.nil ?_ | with_reducible refine Ex.brk ?_))
          refine Ex.setItem ?_ (by with_unfolding_all rfl)
          (repeat (first | with_reducible refine Ev.nm (by assumption) (by with_unfolding_all rfl) (by repeat (first | with_reducible assumption | with_reducible exact LM.put_same _ _ _ | with_reducible refine (LM.put_ne (by decide)).trans ?_ | with_unfolding_all rfl)) ?_))
          refine ⟨_, _, _, rfl, rfl, hN, by exact Int.natCast_nonneg _, by rw [List.length_map]; lia, by lia, ?_⟩
          rw [Int.toNat_natCast, map_set]
          (repeat (first | with_reducible refine Es.nil ?_))
          rw [sd_eq] at hP
          rw [if_neg (by exact Nat.ne_of_gt (by assumption)), if_neg b] at hP
          exact hP
      · have q : pos = 0 := by simpa using q
        subst q
        refine Es.cons ?_
        refine Ex.setItem ?_ (by with_unfolding_all rfl)
        (repeat (first | with_reducible refine Ev.nm (by assumption) (by with_unfolding_all rfl) (by repeat (first | with_reducible assumption | with_reducible exact LM.put_same _ _ _ | with_reducible refine (LM.put_ne (by decide)).trans ?_ | with_unfolding_all rfl)) ?_))
        refine ⟨_, _, _, rfl, rfl, hN, by exact Int.natCast_nonneg _, by rw [List.length_map]; lia, by exact Int.natCast_nonneg _, ?_⟩
        rw [Int.toNat_natCast, map_set]
        (repeat (first | with_reducible refine Es.nil ?_))
        rw [sd_eq] at hP
        rw [if_pos rfl] at hP
        exact hP
  · rw [sc_siftdown]; rfl
  · rw [sc_siftdown]; rfl
  · rw [sc_siftdown]; rfl
end
end Mine
end PartH1
section PartH2
open PySem PySem.W PyProof.Rows
set_option linter.unusedVariables false
set_option maxRecDepth 100000
namespace Mine
section
variable {prog : Program} {w : World} {c : Cx} {m : LM} {N : NM} {P : V → LM → NM → Prop}
theorem push_spec {hp : Addr} {l : List It} {x : It} (F : Fit w c 2) (hN : N hp = some (.list (l.map rf))) (hk : ∀ x ∈ l, Ky c N x) (hx : Ky c N x) (hl : l.length ≤ 50)
    (hP : P .none m (N.put hp (.list ((sd x (l ++ [x]) l.length).map rf)))) : Ca prog w c (.ref 21) [.ref hp, rf x] m N P := by
  refine Ca.fn (names := [Str.ofString "heap", Str.ofString "item"]) F.B (by have := F.d; lia) (fn_heappush w) (cd_heappush w) (bd_heappush w) ?_ rfl ?_ ?_ ?_ ?_ ?_ ?_
  · intro vs hl
    obtain ⟨a, b, rfl⟩ := vs2 hl
    exact ba_heappush w a b
  · rw [sc_heappush]; decide
  · rw [sc_heappush]; decide
  · intro c' hA hB hF
    have F1 : Fit w c' 1 := F.deep hA hB
    have E : FE (callEnv (fdOf w 21) c'.L 21) c' (scopeOf (fnStmt 1)) := callEnv_FE w (sc_heappush w) rfl rfl rfl rfl
    generalize callEnv (fdOf w 21) c'.L 21 = env at E hA
    replace hk : ∀ x ∈ l, Ky c' N x := fun x hx => (hk x hx).ext fun a o e => hF ▸ e
    replace hx : Ky c' N x := hx.ext fun a o e => hF ▸ e
    refine Es.cons ?_
    refine Ex.expr ?_ (FE.inter (by assumption)) (by with_unfolding_all rfl)
    (repeat (first | with_reducible refine Ev.nm (by assumption) (by with_unfolding_all rfl) (by repeat (first | with_reducible assumption | with_reducible exact LM.put_same _ _ _ | with_reducible refine (LM.put_ne (by decide)).trans ?_ | with_unfolding_all rfl)) ?_ | with_reducible refine Ev.append ?_ (by with_unfolding_all rfl) (by with_unfolding_all rfl) (by with_unfolding_all rfl)))
    refine ⟨Ty.list (.inl hN), ?_⟩
    (repeat (first | with_reducible refine Ev.nm (by assumption) (by with_unfolding_all rfl) (by repeat (first | with_reducible assumption | with_reducible exact LM.put_same _ _ _ | with_reducible refine (LM.put_ne (by decide)).trans ?_ | with_unfolding_all rfl)) ?_ | with_reducible refine Ar.cons ?_ (by with_unfolding_all rfl) | with_reducible refine Ar.nil ?_))
    refine Ca.append hN (by rw [List.length_map]; lia) ⟨rfl, ?_⟩
    have e1 : l.map rf ++ [rf x] = (l ++ [x]).map rf := by simp
    rw [e1]
    (repeat (first | with_reducible refine Ev.nm (by assumption) (by with_unfolding_all rfl) (by repeat (first | with_reducible assumption | with_reducible exact LM.put_same _ _ _ | with_reducible refine (LM.put_ne (by decide)).trans ?_ | with_unfolding_all rfl)) ?_ | with_reducible refine Ev.bin ?_ | with_reducible refine Ev.int ?_ | with_reducible refine Ev.call ?_ (by with_unfolding_all rfl) (by with_unfolding_all rfl) (by with_unfolding_all rfl) | with_reducible refine Ev.b_len (by assumption) (by assumption) (by with_unfolding_all rfl) ⟨clb_bi, ?_⟩ | with_reducible refine Ev.g_siftdown (by assumption) (by assumption) (by with_unfolding_all rfl) ⟨clb_siftdown (by assumption), ?_⟩ | with_reducible refine Es.cons ?_ | with_reducible refine Ar.cons ?_ (by with_unfolding_all rfl) | with_reducible refine Ar.nil ?_ | with_reducible refine Ex.expr ?_ (FE.inter (by assumption)) (by with_unfolding_all rfl)))
    refine Ca.lenL (ds := (l ++ [x]).map rf) (.inl (NM.put_same _ _ _)) (by simp; lia) ?_
    (repeat (first | with_reducible refine Ev.int ?_ | with_reducible refine Bi.subI ?_ | with_reducible refine Ar.nil ?_))
    have e2 : (((l ++ [x]).map rf).length : Int) - 1 = (l.length : Int) := by simp
    rw [e2]
    have hl' : (l ++ [x]).length = l.length + 1 := by simp
    refine siftdown_spec (l := l ++ [x]) F1 (NM.put_same _ _ _) (fun y hy => ?_) (by lia) (by lia) ⟨rfl, ?_⟩
    · rcases List.mem_append.mp hy with h | h
      · exact (hk y h).put hN
      · rw [List.mem_singleton.mp h]; exact hx.put hN
    · (repeat (first | with_reducible refine Es.nil ?_))
      rw [NM.put_put]
      have e3 : (l ++ [x]).getD l.length (0, 0) = x := by simp [List.getD_eq_getElem?_getD]
      rw [e3]
      exact hP
  · rw [sc_heappush]; rfl
  · rw [sc_heappush]; rfl
  · rw [sc_heappush]; rfl
end
end Mine
end PartH2
section PartH3
open PySem PySem.W PyProof.Rows
set_option linter.unusedVariables false
set_option maxRecDepth 100000
namespace Mine
noncomputable def chP (l : List It) (pos : Nat) : Nat := if 2 * pos + 2 < l.length ∧ ¬ (l.getD (2 * pos + 1) (0, 0)).2 < (l.getD (2 * pos + 2) (0, 0)).2 then 2 * pos + 2 else 2 * pos + 1
theorem chP_lt {l : List It} {pos : Nat} (h : 2 * pos + 1 < l.length) : pos < chP l pos ∧ chP l pos < l.length := by
  unfold chP; split <;> lia
noncomputable def suf : Nat → List It → Nat → List It × Nat
  | 0, l, pos => (l, pos)
  | f + 1, l, pos => if 2 * pos + 1 < l.length then suf f (l.set pos (l.getD (chP l pos) (0, 0))) (chP l pos) else (l, pos)
theorem suf_end {f : Nat} {l : List It} {pos : Nat} (h : ¬ 2 * pos + 1 < l.length) : suf f l pos = (l, pos) := by
  cases f with
  | zero => rfl
  | succ f => exact if_neg h
theorem suf_more : ∀ (f : Nat) (l : List It) (pos : Nat), l.length - pos ≤ f → suf f l pos = suf (l.length - pos) l pos := fun f => by
  induction f using Nat.strongRecOn with
  | ind f ih =>
    intro l pos h
    by_cases q : 2 * pos + 1 < l.length
    · obtain ⟨k, hk⟩ : ∃ k, l.length - pos = k + 1 := ⟨l.length - pos - 1, by lia⟩
      have c := chP_lt q
      rw [hk] at h ⊢
      cases f with
      | zero => cases h
      | succ f =>
        show (if _ then _ else _) = (if _ then _ else _)
        rw [if_pos q, if_pos q, ih f (Nat.lt_succ_self _) _ _ (by rw [List.length_set]; lia), ih k (by assumption) _ _ (by rw [List.length_set]; lia)]
    · rw [suf_end q, suf_end q]
noncomputable def su (l : List It) (pos : Nat) : List It × Nat := suf (l.length - pos) l pos
theorem su_eq (l : List It) (pos : Nat) : su l pos = if 2 * pos + 1 < l.length then su (l.set pos (l.getD (chP l pos) (0, 0))) (chP l pos) else (l, pos) := by
  unfold su
  by_cases q : 2 * pos + 1 < l.length
  · obtain ⟨k, hk⟩ : ∃ k, l.length - pos = k + 1 := ⟨l.length - pos - 1, by lia⟩
    have c := chP_lt q
    rw [hk, if_pos q]
    show (if _ then _ else _) = _
    rw [if_pos q, suf_more k _ _ (by rw [List.length_set]; lia)]
  · rw [if_neg q, suf_end q]
/- what _siftup makes -/
noncomputable def sft (l : List It) : List It := sd (l.getD 0 (0, 0)) ((su l 0).1.set (su l 0).2 (l.getD 0 (0, 0))) (su l 0).2
section
variable {prog : Program} {w : World} {c : Cx} {m : LM} {N : NM} {P : V → LM → NM → Prop}
theorem getD_mem {l : List It} {i : Nat} (h : i < l.length) : l.getD i (0, 0) ∈ l := by rw [List.getD_eq_getElem?_getD, List.getElem?_eq_getElem h]; simp
theorem siftup_spec {hp : Addr} {l : List It} (F : Fit w c 2) (hN : N hp = some (.list (l.map rf))) (hk : ∀ x ∈ l, Ky c N x) (h0 : 0 < l.length) (hl : l.length ≤ 100)
    (hP : P .none m (N.put hp (.list ((sft l).map rf)))) : Ca prog w c (.ref 42) [.ref hp, .int 0] m N P := by
  refine Ca.fn (names := [Str.ofString "heap", Str.ofString "pos"]) F.B (by have := F.d; lia) (fn_siftup w) (cd_siftup w) (bd_siftup w) ?_ rfl ?_ ?_ ?_ ?_ ?_ ?_
  · intro vs hl
    obtain ⟨a, b, rfl⟩ := vs2 hl
    exact ba_siftup w a b
  · rw [sc_siftup]; decide
  · rw [sc_siftup]; decide
  · intro c' hA hB hF
    have F1 : Fit w c' 1 := F.deep hA hB
    have hu : c'.A.units < cLine := by have := F1.u; lia
    have E : FE (callEnv (fdOf w 42) c'.L 42) c' (scopeOf (fnStmt 4)) := callEnv_FE w (sc_siftup w) rfl rfl rfl rfl
    generalize callEnv (fdOf w 42) c'.L 42 = env at E hA
    replace hk : ∀ x ∈ l, Ky c' N x := fun x hx => (hk x hx).ext fun a o e => hF ▸ e
    have hx0 := hk _ (getD_mem h0)
    refine Es.cons ?_
    refine Ex.assign ?_ (by with_unfolding_all rfl)
    (repeat (first | with_reducible refine Ev.nm (by assumption) (by with_unfolding_all rfl) (by repeat (first | with_reducible assumption | with_reducible exact LM.put_same _ _ _ | with_reducible refine (LM.put_ne (by decide)).trans ?_ | with_unfolding_all rfl)) ?_ | with_reducible refine Ev.call ?_ (by with_unfolding_all rfl) (by with_unfolding_all rfl) (by with_unfolding_all rfl) | with_reducible refine Ev.b_len (by assumption) (by assumption) (by with_unfolding_all rfl) ⟨clb_bi, ?_⟩ | with_reducible refine Ar.cons ?_ (by with_unfolding_all rfl) | with_reducible refine Ar.nil ?_))
    refine Ca.lenL (.inl hN) (by rw [List.length_map]; lia) ?_
    rw [List.length_map]
    (repeat (first | with_reducible refine Ev.nm (by assumption) (by with_unfolding_all rfl) (by repeat (first | with_reducible assumption | with_reducible exact LM.put_same _ _ _ | with_reducible refine (LM.put_ne (by decide)).trans ?_ | with_unfolding_all rfl)) ?_ | with_reducible refine Ev.sub ?_ | with_reducible refine Es.cons ?_ | with_reducible refine Sn.nm (by assumption) (by with_unfolding_all rfl) ?_ | with_reducible refine Ex.assign ?_ (by with_unfolding_all rfl)))
    refine Sb.list (.inl hN) (by exact Int.natCast_nonneg _) (by exact Int.natCast_nonneg _) (get_rf h0) ?_ (by with_unfolding_all rfl)
    (repeat (first | with_reducible refine Ev.nm (by assumption) (by with_unfolding_all rfl) (by repeat (first | with_reducible assumption | with_reducible exact LM.put_same _ _ _ | with_reducible refine (LM.put_ne (by decide)).trans ?_ | with_unfolding_all rfl)) ?_ | with_reducible refine Ev.bin ?_ | with_reducible refine Ev.int ?_ | with_reducible refine Bi.addI ?_ | with_reducible refine Bi.mulI (by decide) (by decide) ?_ | with_reducible refine Es.cons ?_ | with_reducible refine Sn.nm (by assumption) (by with_unfolding_all rfl) ?_ | with_reducible refine Ex.assign ?_ (by with_unfolding_all rfl)))
    refine Ex.while ?_
    refine (?_ : ∀ (k pos : Nat) (l' : List It) (x : It) (m : LM) (N : NM), l'.length - pos = k → l'.length = l.length → N hp = some (.list (l'.map rf)) → (∀ x ∈ l', Ky c' N x) → Ky c' N x → pos < l'.length →
      m (Str.ofString "heap") = some (.ref hp) → m (Str.ofString "startpos") = some (.int 0) → m (Str.ofString "pos") = some (.int pos) → m (Str.ofString "newitem") = some (rf x) → m (Str.ofString "childpos") = some (.int (2 * (pos : Int) + 1)) → m (Str.ofString "endpos") = some (.int l.length) →
      P .none _ (N.put hp (.list ((sd x ((su l' pos).1.set (su l' pos).2 x) (su l' pos).2).map rf))) → Wh prog w c' env _ _ m N _ _) _ 0 l (l.getD 0 (0, 0)) _ N rfl rfl hN hk hx0 h0 (by with_unfolding_all rfl) (by with_unfolding_all rfl) (by with_unfolding_all rfl) ?_ (LM.put_same _ _ _) ?_ hP
    rotate_left
    · refine (LM.put_ne (by decide)).trans ?_
      exact LM.put_same _ _ _
    · repeat (first | with_reducible exact LM.put_same _ _ _ | with_reducible refine (LM.put_ne (by decide)).trans ?_)
    clear hP hN hk hx0
    intro k
    induction k using Nat.strongRecOn with
    | ind k ih =>
      intro pos l' x m N ek el hN hk hx hpos m1 m2 m3 m4 m5 m6 hP
      refine Wh.turn ?_
      (repeat (first | with_reducible refine Ev.nm (by assumption) (by with_unfolding_all rfl) (by repeat (first | with_reducible assumption | with_reducible exact LM.put_same _ _ _ | with_reducible refine (LM.put_ne (by decide)).trans ?_ | with_unfolding_all rfl)) ?_ | with_reducible refine Cp.ltI ?_ | with_reducible refine Tu.bool ?_ | with_reducible refine Te.cmp ?_ (by with_unfolding_all rfl)))
      refine ⟨fun q => ?_, fun q => ?_⟩
      · have q : 2 * pos + 1 < l'.length := by simp at q; lia
        obtain ⟨g1, g2⟩ := chP_lt q
        have hy : Ky c' N (l'.getD (chP l' pos) (0, 0)) := hk _ (getD_mem g2)
        (repeat (first | with_reducible refine Ev.nm (by assumption) (by with_unfolding_all rfl) (by repeat (first | with_reducible assumption | with_reducible exact LM.put_same _ _ _ | with_reducible refine (LM.put_ne (by decide)).trans ?_ | with_unfolding_all rfl)) ?_ | with_reducible refine Ev.bin ?_ | with_reducible refine Ev.int ?_ | with_reducible refine Bi.addI ?_ | with_reducible refine Es.cons ?_ | with_reducible refine Sn.nm (by assumption) (by with_unfolding_all rfl) ?_ | with_reducible refine Ex.assign ?_ (by with_unfolding_all rfl)))
        refine Ex.cut (fun _ _ m' N' => N' = N ∧ m' (Str.ofString "heap") = some (.ref hp) ∧ m' (Str.ofString "startpos") = some (.int 0) ∧ m' (Str.ofString "pos") = some (.int pos) ∧ m' (Str.ofString "newitem") = some (rf x) ∧ m' (Str.ofString "childpos") = some (.int (chP l' pos)) ∧ m' (Str.ofString "endpos") = some (.int l.length)) ?_ ?_
        · have e1 : (2 * (pos : Int) + 1) = ((2 * pos + 1 : Nat) : Int) := by lia
          have e2 : (2 * (pos : Int) + 1 + 1) = ((2 * pos + 2 : Nat) : Int) := by lia
          rw [e2]
          rw [e1] at m5
          refine Ex.if ?_
          (repeat (first | with_reducible refine Ev.nm (by assumption) (by with_unfolding_all rfl) (by repeat (first | with_reducible assumption | with_reducible exact LM.put_same _ _ _ | with_reducible refine (LM.put_ne (by decide)).trans ?_ | with_unfolding_all rfl)) ?_ | with_reducible refine Cp.ltI ?_ | with_reducible refine Tu.bool ?_ | with_reducible refine Te.cmp ?_ (by with_unfolding_all rfl) | with_reducible refine Te.and ?_))
          refine ⟨fun r => ?_, fun r => ?_⟩
          · have r : 2 * pos + 2 < l'.length := by simp at r; lia
            (repeat (first | with_reducible refine Ev.nm (by assumption) (by with_unfolding_all rfl) (by repeat (first | with_reducible assumption | with_reducible exact LM.put_same _ _ _ | with_reducible refine (LM.put_ne (by decide)).trans ?_ | with_unfolding_all rfl)) ?_ | with_reducible refine Ev.sub ?_ | with_reducible refine Te.cmp ?_ (by with_unfolding_all rfl) | with_reducible refine Te.not ?_ | with_reducible refine Te.and ?_))
            refine Sb.list (.inl hN) (by exact Int.natCast_nonneg _) (by lia) (by rw [Int.toNat_natCast]; exact get_rf q) ?_ (by with_unfolding_all rfl)
            (repeat (first | with_reducible refine Ev.nm (by assumption) (by with_unfolding_all rfl) (by repeat (first | with_reducible assumption | with_reducible exact LM.put_same _ _ _ | with_reducible refine (LM.put_ne (by decide)).trans ?_ | with_unfolding_all rfl)) ?_ | with_reducible refine Ev.sub ?_))
            refine Sb.list (.inl hN) (by exact Int.natCast_nonneg _) (by lia) (by rw [Int.toNat_natCast]; exact get_rf r) ?_ (by with_unfolding_all rfl)
            skip
            refine Cp.key hB hu (hk _ (getD_mem q)) (hk _ (getD_mem r)) ?_
            (repeat (first | with_reducible refine Tu.bool ?_))
            refine ⟨fun t => ?_, fun t => ?_⟩
            · (repeat (first | with_reducible refine Te.and0 ?_))
              refine ⟨fun _ => ?_, nofun⟩
              (repeat (first | with_reducible refine Ev.nm (by assumption) (by with_unfolding_all rfl) (by repeat (first | with_reducible assumption | with_reducible exact LM.put_same _ _ _ | with_reducible refine (LM.put_ne (by decide)).trans ?_ | with_unfolding_all rfl)) ?_ | with_reducible refine Es.cons ?_ | with_reducible refine Es.nil ?_ | with_reducible refine Sn.nm (by assumption) (by with_unfolding_all rfl) ?_ | with_reducible refine Ex.assign ?_ (by with_unfolding_all rfl)))
              have e3 : chP l' pos = 2 * pos + 2 := by
                unfold chP; rw [if_pos ⟨r, by simpa using t⟩]
              rw [e3]
              refine ⟨rfl, ?_, ?_, ?_, ?_, LM.put_same _ _ _, ?_⟩ <;> repeat (first | with_reducible assumption | with_reducible refine (LM.put_ne (by decide)).trans ?_)
            · refine ⟨nofun, fun _ => ?_⟩
              (repeat (first | with_reducible refine Es.nil ?_))
              have e3 : chP l' pos = 2 * pos + 1 := by
                unfold chP; rw [if_neg fun h => h.2 (by simpa using t)]
              rw [e3]
              refine ⟨rfl, ?_, ?_, ?_, ?_, ?_, ?_⟩ <;> repeat (first | with_reducible assumption | with_reducible refine (LM.put_ne (by decide)).trans ?_)
          · refine ⟨nofun, fun _ => ?_⟩
            have r : ¬ 2 * pos + 2 < l'.length := by simp at r; lia
            (repeat (first | with_reducible refine Es.nil ?_))
            have e3 : chP l' pos = 2 * pos + 1 := by
              unfold chP; rw [if_neg fun h => r h.1]
            rw [e3]
            refine ⟨rfl, ?_, ?_, ?_, ?_, ?_, ?_⟩ <;> repeat (first | with_reducible assumption | with_reducible refine (LM.put_ne (by decide)).trans ?_)
        rintro m' _ ⟨rfl, n1, n2, n3, n4, n5, n6⟩
        refine Es.cons ?_
        refine Ex.setItem ?_ (by with_unfolding_all rfl)
        (repeat (first | with_reducible refine Ev.nm (by assumption) (by with_unfolding_all rfl) (by repeat (first | with_reducible assumption | with_reducible exact LM.put_same _ _ _ | with_reducible refine (LM.put_ne (by decide)).trans ?_ | with_unfolding_all rfl)) ?_ | with_reducible refine Ev.sub ?_))
        refine Sb.list (.inl hN) (by exact Int.natCast_nonneg _) (by lia) (by rw [Int.toNat_natCast]; exact get_rf g2) ?_ (by with_unfolding_all rfl)
        (repeat (first | with_reducible refine Ev.nm (by assumption) (by with_unfolding_all rfl) (by repeat (first | with_reducible assumption | with_reducible exact LM.put_same _ _ _ | with_reducible refine (LM.put_ne (by decide)).trans ?_ | with_unfolding_all rfl)) ?_))
        refine ⟨_, _, _, rfl, rfl, hN, by exact Int.natCast_nonneg _, by rw [List.length_map]; omega, by lia, ?_⟩
        rw [Int.toNat_natCast, map_set]
        (repeat (first | with_reducible refine Ev.nm (by assumption) (by with_unfolding_all rfl) (by repeat (first | with_reducible assumption | with_reducible exact LM.put_same _ _ _ | with_reducible refine (LM.put_ne (by decide)).trans ?_ | with_unfolding_all rfl)) ?_ | with_reducible refine Ev.bin ?_ | with_reducible refine Ev.int ?_ | with_reducible refine Bi.addI ?_ | with_reducible refine Bi.mulI (by decide) (by decide) ?_ | with_reducible refine Es.cons ?_ | with_reducible refine Es.nil ?_ | with_reducible refine Sn.nm (by assumption) (by with_unfolding_all rfl) ?_ | with_reducible refine Ex.assign ?_ (by with_unfolding_all rfl)))
        have sl : (l'.set pos (l'.getD (chP l' pos) (0, 0))).length = l'.length := List.length_set
        refine ih (l'.length - chP l' pos) (by lia) (chP l' pos) _ x _ _ (by rw [sl]) (by rw [sl]; exact el) (NM.put_same _ _ _) (fun y hy' => ?_) (hx.put hN) (by rw [sl]; exact g2) ?_ ?_ ?_ ?_ (LM.put_same _ _ _) ?_ ?_
        · rcases List.mem_or_eq_of_mem_set hy' with h | h
          · exact (hk y h).put hN
          · rw [h]; exact hy.put hN
        · repeat (first | with_reducible assumption | with_reducible refine (LM.put_ne (by decide)).trans ?_)
        · repeat (first | with_reducible assumption | with_reducible refine (LM.put_ne (by decide)).trans ?_)
        · repeat (first | with_reducible exact LM.put_same _ _ _ | with_reducible refine (LM.put_ne (by decide)).trans ?_)
        · repeat (first | with_reducible assumption | with_reducible refine (LM.put_ne (by decide)).trans ?_)
        · repeat (first | with_reducible assumption | with_reducible refine (LM.put_ne (by decide)).trans ?_)
        · rw [NM.put_put]
          rw [su_eq l' pos, if_pos q] at hP
          exact hP
      · have q : ¬ 2 * pos + 1 < l'.length := by simp at q; lia
        rw [su_eq l' pos, if_neg q] at hP
        refine Es.cons ?_
        refine Ex.setItem ?_ (by with_unfolding_all rfl)
        (repeat (first | with_reducible refine Ev.nm (by assumption) (by with_unfolding_all rfl) (by repeat (first | with_reducible assumption | with_reducible exact LM.put_same _ _ _ | with_reducible refine (LM.put_ne (by decide)).trans ?_ | with_unfolding_all rfl)) ?_))
        refine ⟨_, _, _, rfl, rfl, hN, by lia, by rw [List.length_map]; lia, by lia, ?_⟩
        rw [Int.toNat_natCast, map_set]
        (repeat (first | with_reducible refine Ev.nm (by assumption) (by with_unfolding_all rfl) (by repeat (first | with_reducible assumption | with_reducible exact LM.put_same _ _ _ | with_reducible refine (LM.put_ne (by decide)).trans ?_ | with_unfolding_all rfl)) ?_ | with_reducible refine Ev.call ?_ (by with_unfolding_all rfl) (by with_unfolding_all rfl) (by with_unfolding_all rfl) | with_reducible refine Ev.g_siftdown (by assumption) (by assumption) (by with_unfolding_all rfl) ⟨clb_siftdown (by assumption), ?_⟩ | with_reducible refine Es.cons ?_ | with_reducible refine Ar.cons ?_ (by with_unfolding_all rfl) | with_reducible refine Ar.nil ?_ | with_reducible refine Ex.expr ?_ (FE.inter (by assumption)) (by with_unfolding_all rfl)))
        have sl : (l'.set pos x).length = l'.length := List.length_set
        refine siftdown_spec (l := l'.set pos x) F1 (NM.put_same _ _ _) (fun y hy => ?_) (by lia) (by lia) ⟨rfl, ?_⟩
        · rcases List.mem_or_eq_of_mem_set hy with h | h
          · exact (hk y h).put hN
          · rw [h]; exact hx.put hN
        · (repeat (first | with_reducible refine Es.nil ?_))
          rw [NM.put_put]
          have e3 : (l'.set pos x).getD pos (0, 0) = x := by simp [List.getD_eq_getElem?_getD, hpos]
          rw [e3]
          exact hP
  · rw [sc_siftup]; rfl
  · rw [sc_siftup]; rfl
  · rw [sc_siftup]; rfl
end
end Mine
end PartH3
section PartH4
open PySem PySem.W PyProof.Rows
set_option linter.unusedVariables false
set_option maxRecDepth 100000
namespace Mine
section
variable {prog : Program} {w : World} {c : Cx} {m : LM} {N : NM} {P : V → LM → NM → Prop}
/- what heappop gives, what it leaves -/
noncomputable def popV (l : List It) (x : It) : It := if l = [] then x else l.getD 0 (0, 0)
noncomputable def popL (l : List It) (x : It) : List It := if l = [] then [] else sft (l.set 0 x)
theorem pop_spec {hp : Addr} {l : List It} {x : It} (F : Fit w c 3) (hN : N hp = some (.list ((l ++ [x]).map rf))) (hk : ∀ y ∈ l ++ [x], Ky c N y) (hl : l.length ≤ 50)
    (hP : P (rf (popV l x)) m (N.put hp (.list ((popL l x).map rf)))) : Ca prog w c (.ref 28) [.ref hp] m N P := by
  refine Ca.fn (names := [Str.ofString "heap"]) F.B (by have := F.d; lia) (fn_heappop w) (cd_heappop w) (bd_heappop w) ?_ rfl ?_ ?_ ?_ ?_ ?_ ?_
  · intro vs hl
    obtain ⟨a, rfl⟩ := vs1 hl
    exact ba_heappop w a
  · rw [sc_heappop]; decide
  · rw [sc_heappop]; decide
  · intro c' hA hB hF
    have F1 : Fit w c' 2 := F.deep hA hB
    have E : FE (callEnv (fdOf w 28) c'.L 28) c' (scopeOf (fnStmt 2)) := callEnv_FE w (sc_heappop w) rfl rfl rfl rfl
    generalize callEnv (fdOf w 28) c'.L 28 = env at E hA
    replace hk : ∀ y ∈ l ++ [x], Ky c' N y := fun y hy => (hk y hy).ext fun a o e => hF ▸ e
    have hN' : N hp = some (.list (l.map rf ++ [rf x])) := by rw [hN]; simp
    refine Es.cons ?_
    refine Ex.assign ?_ (by with_unfolding_all rfl)
    (repeat (first | with_reducible refine Ev.nm (by assumption) (by with_unfolding_all rfl) (by repeat (first | with_reducible assumption | with_reducible exact LM.put_same _ _ _ | with_reducible refine (LM.put_ne (by decide)).trans ?_ | with_unfolding_all rfl)) ?_ | with_reducible refine Ev.pop ?_ (by with_unfolding_all rfl) (by with_unfolding_all rfl)))
    refine ⟨Ty.list (.inl hN), ?_⟩
    refine Ca.pop hN' (by rw [List.length_map]; exact Nat.le_trans (by assumption) (by decide)) ?_
    (repeat (first | with_reducible refine Es.cons ?_ | with_reducible refine Sn.nm (by assumption) (by with_unfolding_all rfl) ?_))
    refine Ex.if ?_
    (repeat (first | with_reducible refine Ev.nm (by assumption) (by with_unfolding_all rfl) (by repeat (first | with_reducible assumption | with_reducible exact LM.put_same _ _ _ | with_reducible refine (LM.put_ne (by decide)).trans ?_ | with_unfolding_all rfl)) ?_ | with_reducible refine Te.plain ?_ (by with_unfolding_all rfl)))
    refine Tu.list (ds := l.map rf) (.inl (NM.put_same _ _ _)) (by rw [List.length_map]; lia) ?_
    rw [List.length_map]
    refine ⟨fun q => ?_, fun q => ?_⟩
    · have q : 0 < l.length := by simpa using q
      have q' : l ≠ [] := fun z => by rw [z] at q; simp at q
      refine Es.cons ?_
      refine Ex.assign ?_ (by with_unfolding_all rfl)
      (repeat (first | with_reducible refine Ev.nm (by assumption) (by with_unfolding_all rfl) (by repeat (first | with_reducible assumption | with_reducible exact LM.put_same _ _ _ | with_reducible refine (LM.put_ne (by decide)).trans ?_ | with_unfolding_all rfl)) ?_ | with_reducible refine Ev.int ?_ | with_reducible refine Ev.sub ?_))
      refine Sb.list (.inl (NM.put_same _ _ _)) (by exact Int.natCast_nonneg _) (by exact Int.natCast_nonneg _) (get_rf q) ?_ (by with_unfolding_all rfl)
      (repeat (first | with_reducible refine Es.cons ?_ | with_reducible refine Sn.nm (by assumption) (by with_unfolding_all rfl) ?_))
      refine Ex.setItem ?_ (by with_unfolding_all rfl)
      (repeat (first | with_reducible refine Ev.nm (by assumption) (by with_unfolding_all rfl) (by repeat (first | with_reducible assumption | with_reducible exact LM.put_same _ _ _ | with_reducible refine (LM.put_ne (by decide)).trans ?_ | with_unfolding_all rfl)) ?_ | with_reducible refine Ev.int ?_))
      refine ⟨_, _, _, rfl, rfl, NM.put_same _ _ _, by exact Int.natCast_nonneg _, by rw [List.length_map]; lia, by exact Int.natCast_nonneg _, ?_⟩
      rw [NM.put_put, Int.toNat_zero, map_set]
      (repeat (first | with_reducible refine Ev.nm (by assumption) (by with_unfolding_all rfl) (by repeat (first | with_reducible assumption | with_reducible exact LM.put_same _ _ _ | with_reducible refine (LM.put_ne (by decide)).trans ?_ | with_unfolding_all rfl)) ?_ | with_reducible refine Ev.int ?_ | with_reducible refine Ev.call ?_ (by with_unfolding_all rfl) (by with_unfolding_all rfl) (by with_unfolding_all rfl) | with_reducible refine Ev.g_siftup (by assumption) (by assumption) (by with_unfolding_all rfl) ⟨clb_siftup (by assumption), ?_⟩ | with_reducible refine Es.cons ?_ | with_reducible refine Ar.cons ?_ (by with_unfolding_all rfl) | with_reducible refine Ar.nil ?_ | with_reducible refine Ex.expr ?_ (FE.inter (by assumption)) (by with_unfolding_all rfl)))
      have sl : (l.set 0 x).length = l.length := List.length_set
      refine siftup_spec (l := l.set 0 x) F1 (NM.put_same _ _ _) (fun y hy => ?_) (by lia) (by lia) ⟨rfl, ?_⟩
      · rcases List.mem_or_eq_of_mem_set hy with h | h
        · exact (hk y (List.mem_append_left _ h)).put hN
        · rw [h]; exact (hk x (by simp)).put hN
      · (repeat (first | with_reducible refine Ev.nm (by assumption) (by with_unfolding_all rfl) (by repeat (first | with_reducible assumption | with_reducible exact LM.put_same _ _ _ | with_reducible refine (LM.put_ne (by decide)).trans ?_ | with_unfolding_all rfl)) ?_ | with_reducible refine Es.cons ?_ | with_reducible refine Ex.ret ?_))
        rw [NM.put_put]
        unfold popV popL at hP
        rw [if_neg q', if_neg q'] at hP
        exact hP
    · have q : l = [] := by simpa using q
      subst q
      (repeat (first | with_reducible refine Ev.nm (by assumption) (by with_unfolding_all rfl) (by repeat (first | with_reducible assumption | with_reducible exact LM.put_same _ _ _ | with_reducible refine (LM.put_ne (by decide)).trans ?_ | with_unfolding_all rfl)) ?_ | with_reducible refine Es.cons ?_ | with_reducible refine Es.nil ?_ | with_reducible refine Ex.ret ?_))
      exact hP
  · rw [sc_heappop]; rfl
  · rw [sc_heappop]; rfl
  · rw [sc_heappop]; rfl
end
end Mine
end PartH4
section PartP3
set_option linter.unusedVariables false
namespace Mine
open List
noncomputable def gk (l : List It) (i : Nat) : Nat := (l.getD i (0, 0)).2
theorem getD_set (l : List It) (i j : Nat) (a d : It) (h : i < l.length) : (l.set i a).getD j d = if i = j then a else l.getD j d := by
  rw [getD_eq_getElem?_getD, getElem?_set, getD_eq_getElem?_getD]
  split <;> simp [h]
theorem gk_set (l : List It) (i j : Nat) (a : It) (h : i < l.length) : gk (l.set i a) j = if i = j then a.2 else gk l j := by
  unfold gk; rw [getD_set _ _ _ _ _ h]; split <;> rfl
noncomputable def IsHeap (l : List It) : Prop := ∀ i, 0 < i → i < l.length → gk l ((i - 1) / 2) ≤ gk l i
theorem swap_perm {l : List It} {i j : Nat} {x : It} (hi : i < l.length) (hj : j < l.length) (hij : i ≠ j) : (l.set i (l.getD j (0, 0))).set j x ~ l.set i x := by
  have h1 : i < (l.set i x).length := by rw [length_set]; exact hi
  have h2 : j < (l.set i x).length := by rw [length_set]; exact hj
  have := set_set_perm h1 h2
  have e1 : (l.set i x)[j] = l.getD j (0, 0) := by rw [getElem_set, if_neg hij, getD_eq_getElem?_getD, getElem?_eq_getElem hj]; rfl
  have e2 : (l.set i x)[i] = x := by rw [getElem_set, if_pos rfl]
  rw [e1, e2, set_set] at this
  exact this
theorem sd_heap : ∀ (pos : Nat) (l : List It) (x : It), pos < l.length → (∀ i, 0 < i → i < l.length → i ≠ pos → gk (l.set pos x) ((i - 1) / 2) ≤ gk (l.set pos x) i) →
    (∀ i, 0 < i → i < l.length → (i - 1) / 2 = pos → 0 < pos → gk (l.set pos x) ((pos - 1) / 2) ≤ gk (l.set pos x) i) → IsHeap (sd x l pos) ∧ sd x l pos ~ l.set pos x := by
  intro pos
  induction pos using Nat.strongRecOn with
  | ind pos ih =>
    intro l x hp H1 H2
    rw [sd_eq]
    split
    · rename_i h
      subst h
      exact ⟨fun i h0 h1 => by rw [length_set] at h1; exact H1 i h0 h1 (by exact Nat.ne_of_gt (by assumption)), Perm.refl _⟩
    · rename_i h
      have hpp : (pos - 1) / 2 < l.length := by lia
      have hne : (pos - 1) / 2 ≠ pos := by lia
      simp only [gk_set _ _ _ _ hp] at H1 H2
      split
      · rename_i hlt
        have hlt' : x.2 < gk l ((pos - 1) / 2) := hlt
        have hs : (l.set pos (l.getD ((pos - 1) / 2) (0, 0))).length = l.length := length_set
        have k1 : ∀ j, gk ((l.set pos (l.getD ((pos - 1) / 2) (0, 0))).set ((pos - 1) / 2) x) j = if (pos - 1) / 2 = j then x.2 else if pos = j then gk l ((pos - 1) / 2) else gk l j := fun j => by
          rw [gk_set _ _ _ _ (by rw [hs]; exact hpp), gk_set _ _ _ _ hp]; rfl
        obtain ⟨g1, g2⟩ := ih ((pos - 1) / 2) (by lia) (l.set pos (l.getD ((pos - 1) / 2) (0, 0))) x (by rw [hs]; exact hpp) (fun i h0 h1 h2 => by
            rw [hs] at h1
            rw [k1, k1]
            have q1 := H1 i h0 h1
            have q2 := H2 i h0 h1
            by_cases c1 : i = pos
            · subst c1
              rw [if_pos rfl, if_neg hne, if_pos rfl]; exact Nat.le_of_lt (by assumption)
            · rw [if_neg (Ne.symm c1), if_neg (Ne.symm h2)]
              by_cases c2 : (i - 1) / 2 = pos
              · have := q2 c2 (by exact Nat.pos_of_ne_zero (by assumption))
                rw [if_neg (Ne.symm hne), if_neg (Ne.symm c1)] at this
                rw [c2, if_neg hne, if_pos rfl]; exact this
              · have := q1 c1
                rw [if_neg (Ne.symm c2), if_neg (Ne.symm c1)] at this
                by_cases c3 : (i - 1) / 2 = (pos - 1) / 2
                · rw [c3, if_pos rfl]; rw [c3] at this; lia
                · rw [if_neg (Ne.symm c3), if_neg (Ne.symm c2)]; exact this) (fun i h0 h1 h2 h3 => by
            rw [hs] at h1
            rw [k1, k1]
            have a1 := H1 ((pos - 1) / 2) h3 hpp hne
            rw [if_neg (by lia), if_neg (Ne.symm hne)] at a1
            rw [if_neg (by lia), if_neg (by lia)]
            by_cases c1 : i = pos
            · subst c1
              rw [if_neg hne, if_pos rfl]; exact a1
            · rw [if_neg (by lia), if_neg (Ne.symm c1)]
              have := H1 i h0 h1 c1
              rw [if_neg (by lia), if_neg (Ne.symm c1), h2] at this
              exact Nat.le_trans (by assumption) (by assumption))
        exact ⟨g1, g2.trans (swap_perm hp hpp (Ne.symm hne))⟩
      · rename_i hnl
        have hnl' : ¬ x.2 < gk l ((pos - 1) / 2) := hnl
        refine ⟨fun i h0 h1 => ?_, Perm.refl _⟩
        rw [length_set] at h1
        rw [gk_set _ _ _ _ hp, gk_set _ _ _ _ hp]
        by_cases c1 : i = pos
        · subst c1
          rw [if_pos rfl, if_neg (Ne.symm hne)]; lia
        · exact H1 i h0 h1 c1
theorem push_heap {l : List It} {x : It} (h : IsHeap l) : IsHeap (sd x (l ++ [x]) l.length) ∧ sd x (l ++ [x]) l.length ~ l ++ [x] := by
  have hs : (l ++ [x]).set l.length x = l ++ [x] := by simp
  have g : ∀ i, i < l.length → gk (l ++ [x]) i = gk l i := fun i hi => by unfold gk; rw [getD_eq_getElem?_getD, getD_eq_getElem?_getD, getElem?_append_left hi]
  have := sd_heap l.length (l ++ [x]) x (by simp) (fun i h0 h1 h2 => by
    have h1' : i < l.length := by simp at h1; lia
    rw [hs, g _ (by lia), g _ h1']; exact h i h0 h1') (fun i h0 h1 h2 h3 => by simp at h1; (exfalso; lia))
  rw [hs] at this
  exact this
theorem chP_le {l : List It} {pos i : Nat} (hi : i < l.length) (h : (i - 1) / 2 = pos) (h0 : 0 < i) : gk l (chP l pos) ≤ gk l i := by
  unfold chP
  have e1 : (l.getD (2 * pos + 1) (0, 0)).2 = gk l (2 * pos + 1) := rfl
  have e2 : (l.getD (2 * pos + 2) (0, 0)).2 = gk l (2 * pos + 2) := rfl
  rw [e1, e2]
  rcases (by lia : i = 2 * pos + 1 ∨ i = 2 * pos + 2) with q | q
  · subst q; split
    · lia
    · exact Nat.le_refl _
  · subst q; split
    · exact Nat.le_refl _
    · lia
theorem chP_par (l : List It) (pos : Nat) : (chP l pos - 1) / 2 = pos := by unfold chP; split <;> lia
theorem su_heap : ∀ (k pos : Nat) (l : List It), l.length - pos = k → pos < l.length → (∀ i, 0 < i → i < l.length → i ≠ pos → (i - 1) / 2 ≠ pos → gk l ((i - 1) / 2) ≤ gk l i) →
    (∀ i, 0 < i → i < l.length → (i - 1) / 2 = pos → 0 < pos → gk l ((pos - 1) / 2) ≤ gk l i) →
    (su l pos).1.length = l.length ∧ (su l pos).2 < l.length ∧ l.length ≤ 2 * (su l pos).2 + 1 ∧ (∀ i, 0 < i → i < l.length → i ≠ (su l pos).2 → gk (su l pos).1 ((i - 1) / 2) ≤ gk (su l pos).1 i) ∧
    (∀ x, (su l pos).1.set (su l pos).2 x ~ l.set pos x) := by
  intro k
  induction k using Nat.strongRecOn with
  | ind k ih =>
    intro pos l hk hp A B
    rw [su_eq]
    split
    · rename_i h
      obtain ⟨c1, c2⟩ := chP_lt h
      have par := chP_par l pos
      have hs : (l.set pos (l.getD (chP l pos) (0, 0))).length = l.length := length_set
      have e : (l.getD (chP l pos) (0, 0)).2 = gk l (chP l pos) := rfl
      have := ih (l.length - chP l pos) (by lia) (chP l pos) (l.set pos (l.getD (chP l pos) (0, 0))) (by rw [hs]) (by rw [hs]; exact c2) (fun i h0 h1 h2 h3 => by
          rw [hs] at h1
          rw [gk_set _ _ _ _ hp, gk_set _ _ _ _ hp, e]
          by_cases d1 : i = pos
          · subst d1
            rw [if_pos rfl, if_neg (by lia)]
            exact B (chP l i) (by exact Nat.lt_trans (by assumption) (by assumption)) c2 par h0
          · rw [if_neg (Ne.symm d1)]
            by_cases d2 : (i - 1) / 2 = pos
            · rw [if_pos d2.symm]; exact chP_le h1 d2 h0
            · rw [if_neg (Ne.symm d2)]; exact A i h0 h1 d1 d2) (fun i h0 h1 h2 h3 => by
          rw [hs] at h1
          rw [gk_set _ _ _ _ hp, gk_set _ _ _ _ hp, e, par, if_pos rfl, if_neg (by lia)]
          have := A i h0 h1 (by lia) (by lia)
          rw [h2] at this; exact this)
      rw [hs] at this
      obtain ⟨r1, r2, r3, r4, r5⟩ := this
      exact ⟨r1, r2, r3, r4, fun x => (r5 x).trans (swap_perm hp c2 (by exact Nat.ne_of_lt (by assumption)))⟩
    · rename_i h
      exact ⟨rfl, hp, by simp only; lia, fun i h0 h1 h2 => A i h0 h1 h2 (by lia), fun x => Perm.refl _⟩
theorem heap_min {l : List It} (h : IsHeap l) : ∀ i, i < l.length → gk l 0 ≤ gk l i := by
  intro i
  induction i using Nat.strongRecOn with
  | ind i ih =>
    intro hi
    by_cases h0 : i = 0
    · subst h0; exact Nat.le_refl _
    · exact Nat.le_trans (ih ((i - 1) / 2) (by lia) (by lia)) (h i (by exact Nat.pos_of_ne_zero (by assumption)) hi)
theorem pop_heap {l : List It} {x : It} (h : IsHeap (l ++ [x])) : IsHeap (popL l x) ∧ (popV l x :: popL l x) ~ l ++ [x] ∧ ∀ y ∈ l ++ [x], (popV l x).2 ≤ y.2 := by
  have hmin : ∀ y ∈ l ++ [x], gk (l ++ [x]) 0 ≤ y.2 := fun y hy => by
    obtain ⟨i, hi, e⟩ := getElem_of_mem hy
    have := heap_min h i hi
    rw [show gk (l ++ [x]) i = y.2 by unfold gk; rw [getD_eq_getElem?_getD, getElem?_eq_getElem hi, e]; rfl] at this
    exact this
  unfold popV popL
  split
  · rename_i e
    subst e
    exact ⟨fun i h0 h1 => by simp at h1, Perm.refl _, fun y hy => by have := hmin y hy; simpa [gk] using this⟩
  · rename_i e
    have h0 : 0 < l.length := length_pos_iff.mpr e
    have g : ∀ i, i < l.length → gk (l ++ [x]) i = gk l i := fun i hi => by unfold gk; rw [getD_eq_getElem?_getD, getD_eq_getElem?_getD, getElem?_append_left hi]
    have hs : (l.set 0 x).length = l.length := length_set
    obtain ⟨r1, r2, r3, r4, r5⟩ := su_heap _ 0 (l.set 0 x) rfl (by rw [hs]; exact h0) (fun i i0 i1 i2 i3 => by
      rw [hs] at i1
      rw [gk_set _ _ _ _ h0, gk_set _ _ _ _ h0, if_neg (Ne.symm i3), if_neg (Ne.symm i2)]
      have := h i i0 (by simp; exact Nat.lt_succ_of_lt (by assumption))
      rw [g _ (by lia), g _ i1] at this; exact this) (fun i _ _ _ q => absurd q (Nat.lt_irrefl _))
    have ex : (l.set 0 x).getD 0 (0, 0) = x := by rw [getD_set _ _ _ _ _ h0, if_pos rfl]
    have sl : ((su (l.set 0 x) 0).1.set (su (l.set 0 x) 0).2 x).length = l.length := by rw [length_set, r1, hs]
    have := sd_heap (su (l.set 0 x) 0).2 ((su (l.set 0 x) 0).1.set (su (l.set 0 x) 0).2 x) x (by rw [sl, ← hs]; exact r2) (fun i i0 i1 i2 => by
      rw [sl] at i1
      rw [set_set, gk_set _ _ _ _ (by rw [r1]; exact r2), gk_set _ _ _ _ (by rw [r1]; exact r2), if_neg (by rw [hs] at r3; lia), if_neg (Ne.symm i2)]
      exact r4 i i0 (by rw [hs]; exact i1) i2) (fun i i0 i1 i2 i3 => by rw [sl] at i1; rw [hs] at r3; (exfalso; lia))
    unfold sft
    rw [ex]
    refine ⟨this.1, ?_, fun y hy => ?_⟩
    · have q1 := this.2
      have q2 := r5 x
      rw [set_set] at q1 q2
      have p1 := q1.trans q2
      refine (Perm.cons _ p1).trans ?_
      cases l with
      | nil => exact absurd rfl e
      | cons a t =>
        simp only [set_cons_zero]
        show a :: x :: t ~ a :: (t ++ [x])
        exact Perm.cons _ (perm_append_singleton x t).symm
    · have := hmin y hy
      rw [g 0 h0] at this
      exact this
end Mine
end PartP3
section PartL1
open PySem PySem.W PyProof.Rows
set_option linter.unusedVariables false
set_option maxRecDepth 100000
namespace Mine
noncomputable def letters : List Nat := [65, 66, 67, 68, 69, 70, 97, 98, 99, 100, 101, 102]
noncomputable def subF (a b : Nat) : Int := if a = b then 0 else if lowC a = lowC b then 1 else 2
section
variable {prog : Program} {w : World} {c : Cx} {m : LM} {N : NM} {P : V → LM → NM → Prop}
theorem subst_spec {a b : Nat} (F : Fit w c 1) (ha : a ∈ letters) (hb : b ∈ letters) (hP : P (.int (subF a b)) m N) : Ca prog w c (.ref 63) [.str (sx [a]), .str (sx [b])] m N P := by
  refine Ca.fn (names := [Str.ofString "ch_a", Str.ofString "ch_b"]) F.B (by have := F.d; lia) (fn_substitution_cost w) (cd_substitution_cost w) (bd_substitution_cost w) ?_ rfl ?_ ?_ ?_ ?_ ?_ ?_
  · intro vs hl
    obtain ⟨a, b, rfl⟩ := vs2 hl
    exact ba_substitution_cost w a b
  · rw [sc_substitution_cost]; decide
  · rw [sc_substitution_cost]; decide
  · intro c' hA hB hF
    have E : FE (callEnv (fdOf w 63) c'.L 63) c' (scopeOf (fnStmt 12)) := callEnv_FE w (sc_substitution_cost w) rfl rfl rfl rfl
    generalize callEnv (fdOf w 63) c'.L 63 = env at E hA
    refine Es.cons ?_
    refine Ex.if ?_
    (repeat (first | with_reducible refine Ev.nm (by assumption) (by with_unfolding_all rfl) (by repeat (first | with_reducible assumption | with_reducible exact LM.put_same _ _ _ | with_reducible refine (LM.put_ne (by decide)).trans ?_ | with_unfolding_all rfl)) ?_ | with_reducible refine Cp.eqS ?_ | with_reducible refine Tu.bool ?_ | with_reducible refine Te.cmp ?_ (by with_unfolding_all rfl)))
    refine ⟨fun q => ?_, fun q => ?_⟩
    · have q : a = b := by simpa using q
      (repeat (first | with_reducible refine Ev.int ?_ | with_reducible refine Es.cons ?_ | with_reducible refine Ex.ret ?_))
      unfold subF at hP; rw [if_pos q] at hP
      exact hP
    · have q : ¬ a = b := by simpa using q
      (repeat (first | with_reducible refine Es.cons ?_ | with_reducible refine Es.nil ?_))
      refine Ex.if ?_
      (repeat (first | with_reducible refine Ev.nm (by assumption) (by with_unfolding_all rfl) (by repeat (first | with_reducible assumption | with_reducible exact LM.put_same _ _ _ | with_reducible refine (LM.put_ne (by decide)).trans ?_ | with_unfolding_all rfl)) ?_ | with_reducible refine Ev.lower ?_ (by with_unfolding_all rfl) (by with_unfolding_all rfl) | with_reducible refine Te.cmp ?_ (by with_unfolding_all rfl)))
      refine ⟨Ty.str, Ca.lower ha ?_⟩
      (repeat (first | with_reducible refine Ev.nm (by assumption) (by with_unfolding_all rfl) (by repeat (first | with_reducible assumption | with_reducible exact LM.put_same _ _ _ | with_reducible refine (LM.put_ne (by decide)).trans ?_ | with_unfolding_all rfl)) ?_ | with_reducible refine Ev.lower ?_ (by with_unfolding_all rfl) (by with_unfolding_all rfl)))
      refine ⟨Ty.str, Ca.lower hb ?_⟩
      (repeat (first | with_reducible refine Cp.eqS ?_ | with_reducible refine Tu.bool ?_))
      refine ⟨fun r => ?_, fun r => ?_⟩
      · have r : lowC a = lowC b := by simpa using r
        (repeat (first | with_reducible refine Ev.g_CASE_COST (by assumption) (by assumption) (by with_unfolding_all rfl) ?_ | with_reducible refine Es.cons ?_ | with_reducible refine Ex.ret ?_))
        unfold subF at hP; rw [if_neg q, if_pos r] at hP
        exact hP
      · have r : ¬ lowC a = lowC b := by simpa using r
        (repeat (first | with_reducible refine Ev.g_MOVE_COST (by assumption) (by assumption) (by with_unfolding_all rfl) ?_ | with_reducible refine Es.cons ?_ | with_reducible refine Es.nil ?_ | with_reducible refine Ex.ret ?_))
        unfold subF at hP; rw [if_neg q, if_neg r] at hP
        exact hP
  · rw [sc_substitution_cost]; rfl
  · rw [sc_substitution_cost]; rfl
  · rw [sc_substitution_cost]; rfl
end
end Mine
end PartL1
section PartP4
set_option linter.unusedVariables false
namespace Mine
/- the letter of a turn on step k: great on the right -/
noncomputable def lt (k : Nat) (b : Bool) : Nat := if b then 65 + k else 97 + k
noncomputable def wd : Nat → List Bool → List Nat
  | _, [] => []
  | k, b :: u => lt k b :: wd (k + 1) u
theorem wd_0 (k : Nat) : wd k [] = [] := rfl
theorem wd_1 (k : Nat) (b : Bool) (u : List Bool) : wd k (b :: u) = lt k b :: wd (k + 1) u := rfl
theorem wd_len : ∀ (k : Nat) (u : List Bool), (wd k u).length = u.length
  | _, [] => rfl
  | k, b :: u => by simp [wd_1, wd_len (k + 1) u]
theorem wd_get : ∀ (k : Nat) (u : List Bool) (i : Nat), (wd k u)[i]? = u[i]?.map (lt (k + i))
  | _, [], i => by simp [wd_0, wd_1]
  | k, b :: u, 0 => by simp [wd_0, wd_1]
  | k, b :: u, i + 1 => by
    simp only [wd_1, List.getElem?_cons_succ]
    rw [wd_get (k + 1) u i, show k + 1 + i = k + (i + 1) by lia]
theorem wd_drop : ∀ (k : Nat) (u : List Bool) (i : Nat), (wd k u).drop i = wd (k + i) (u.drop i)
  | _, [], i => by simp [wd_0, wd_1]
  | k, b :: u, 0 => by simp
  | k, b :: u, i + 1 => by
    simp only [wd_1, List.drop_succ_cons]
    rw [wd_drop (k + 1) u i, show k + 1 + i = k + (i + 1) by lia]
theorem wd_take : ∀ (k : Nat) (u : List Bool) (i : Nat), (wd k u).take i = wd k (u.take i)
  | _, [], i => by simp [wd_0, wd_1]
  | k, b :: u, 0 => by simp [wd_0, wd_1]
  | k, b :: u, i + 1 => by
    simp only [wd_1, List.take_succ_cons]
    rw [wd_take (k + 1) u i]
theorem wd_append : ∀ (k : Nat) (u v : List Bool), wd k (u ++ v) = wd k u ++ wd (k + u.length) v
  | _, [], v => by simp [wd_0, wd_1]
  | k, b :: u, v => by
    simp only [wd_1, List.cons_append, List.length_cons]
    rw [wd_append (k + 1) u v, show k + 1 + u.length = k + (u.length + 1) by lia]
theorem lt_inj {i j : Nat} {b d : Bool} (hi : i < 6) (hj : j < 6) (h : lt i b = lt j d) : i = j ∧ b = d := by
  unfold lt at h
  cases b <;> cases d <;> simp at h ⊢ <;> lia
theorem lt_mem {i : Nat} {b : Bool} (hi : i < 6) : lt i b ∈ letters := by
  rcases (by lia : i = 0 ∨ i = 1 ∨ i = 2 ∨ i = 3 ∨ i = 4 ∨ i = 5) with rfl | rfl | rfl | rfl | rfl | rfl <;> cases b <;> decide
theorem lowC_lt {i : Nat} {b : Bool} (hi : i < 6) : lowC (lt i b) = 97 + i := by
  unfold lowC lt
  cases b
  · simp only [Bool.false_eq_true, if_false]; rw [if_neg (by lia)]
  · simp only [if_true]; rw [if_pos (by lia)]; lia
theorem subF_lt {i j : Nat} {b d : Bool} (hi : i < 6) (hj : j < 6) : subF (lt i b) (lt j d) = if i = j then (if b = d then 0 else 1) else 2 := by
  unfold subF
  rw [lowC_lt hi, lowC_lt hj]
  by_cases h : i = j
  · subst h
    rw [if_pos rfl, if_pos rfl]
    by_cases q : b = d
    · subst q; rw [if_pos rfl, if_pos rfl]
    · rw [if_neg q, if_neg fun z => q (lt_inj hi hj z).2]
  · rw [if_neg h, if_neg fun z => h (lt_inj hi hj z).1, if_neg (by lia)]
theorem wd_inj {k : Nat} {u v : List Bool} (hu : k + u.length ≤ 6) (hv : k + v.length ≤ 6) (h : wd k u = wd k v) : u = v := by
  induction u generalizing k v with
  | nil => cases v with | nil => rfl | cons b v => simp [wd_0, wd_1] at h
  | cons a u ih => cases v with
    | nil => simp [wd_0, wd_1] at h
    | cons b v =>
      simp only [wd_1, List.cons.injEq] at h
      simp only [List.length_cons] at hu hv
      rw [(lt_inj (by lia) (by lia) h.1).2, ih (k := k + 1) (by lia) (by lia) h.2]
/- unlike turns, of those that both have -/
noncomputable def ham : List Bool → List Bool → Nat
  | a :: u, b :: v => (if a = b then 0 else 1) + ham u v
  | _, _ => 0
theorem ham_0 (v : List Bool) : ham [] v = 0 := rfl
theorem ham_1 (a b : Bool) (u v : List Bool) : ham (a :: u) (b :: v) = (if a = b then 0 else 1) + ham u v := rfl
theorem ham_nil (u : List Bool) : ham u [] = 0 := by cases u <;> rfl
theorem ham_self : ∀ u : List Bool, ham u u = 0
  | [] => rfl
  | a :: u => by simp [ham_1, ham_self u]
theorem ham_comm : ∀ u v : List Bool, ham u v = ham v u
  | [], v => by rw [ham_nil]; rfl
  | a :: u, [] => rfl
  | a :: u, b :: v => by
    rw [ham_1, ham_1]
    rw [ham_comm u v]
    by_cases h : a = b
    · rw [if_pos h, if_pos h.symm]
    · rw [if_neg h, if_neg (Ne.symm h)]
theorem ham_pre : ∀ (p u v : List Bool), ham (p ++ u) (p ++ v) = ham u v
  | [], _, _ => rfl
  | a :: p, u, v => by simp [ham_1, ham_pre p u v]
theorem ham_post : ∀ (u v t : List Bool), u.length = v.length → ham (u ++ t) (v ++ t) = ham u v
  | [], [], t, _ => ham_self t
  | a :: u, b :: v, t, h => by simp only [ham_1, List.cons_append]; rw [ham_post u v t (by simpa using h)]
noncomputable def due (u v : List Bool) : Nat := 2 * ((u.length - v.length) + (v.length - u.length)) + ham u v
theorem due_comm (u v : List Bool) : due u v = due v u := by unfold due; rw [ham_comm u v]; lia
/- unlike turns among the first k -/
noncomputable def hamK (u v : List Bool) (k : Nat) : Nat := ham (u.take k) (v.take k)
theorem hamK_le (u v : List Bool) : ∀ k, hamK u v k ≤ hamK u v (k + 1) ∧ hamK u v (k + 1) ≤ hamK u v k + 1 := by
  unfold hamK
  induction u generalizing v with
  | nil => intro k; simp [ham_0]
  | cons a u ih => intro k; cases v with
    | nil => simp [ham_nil]
    | cons b v => cases k with
      | zero =>
        have e : ham (u.take 0) (v.take 0) = 0 := by simp [ham_0]
        simp only [List.take_succ_cons, ham_1, ham_0, List.take_zero]
        split <;> lia
      | succ k =>
        simp only [List.take_succ_cons, ham_1]
        have := ih v k
        lia
theorem hamK_succ {u v : List Bool} {k : Nat} {a b : Bool} (ha : u[k]? = some a) (hb : v[k]? = some b) : hamK u v (k + 1) = hamK u v k + (if a = b then 0 else 1) := by
  unfold hamK
  induction u generalizing v k with
  | nil => simp at ha
  | cons c u ih => cases v with
    | nil => simp at hb
    | cons d v => cases k with
      | zero =>
        simp only [List.getElem?_cons_zero, Option.some.injEq] at ha hb
        subst ha hb
        simp [ham_1, ham_0]
      | succ k =>
        simp only [List.take_succ_cons, ham_1]
        have := ih (v := v) (k := k) (by simpa using ha) (by simpa using hb)
        lia
theorem hamK_mono (u v : List Bool) {i j : Nat} (h : i ≤ j) : hamK u v i ≤ hamK u v j := by
  induction j with
  | zero => rw [show i = 0 by lia]; exact Nat.le_refl _
  | succ j ih =>
    rcases Nat.lt_or_eq_of_le h with q | q
    · exact Nat.le_trans (ih (by lia)) (hamK_le u v j).1
    · rw [q]; exact Nat.le_refl _
theorem hamK_top {u v : List Bool} (h : u.length ≤ v.length) : hamK u v u.length = ham u v := by
  unfold hamK
  induction u generalizing v with
  | nil => simp [ham_0]
  | cons a u ih => cases v with
    | nil => simp at h
    | cons b v =>
      simp only [List.length_cons, List.take_succ_cons, ham]
      rw [ih (v := v) (by simpa using h)]
/- the distances: i letters of y, j letters of x -/
noncomputable def dst (x y : List Bool) (i j : Nat) : Nat := 2 * ((i - j) + (j - i)) + hamK x y (min i j)
theorem dst_r {x y : List Bool} (i d : Nat) : dst x y i (i + d) = 2 * d + hamK x y i := by
  unfold dst
  rw [Nat.min_eq_left (Nat.le_add_right _ _), Nat.sub_eq_zero_of_le (Nat.le_add_right _ _), Nat.add_sub_cancel_left, Nat.zero_add]
theorem dst_l {x y : List Bool} (j d : Nat) : dst x y (j + d) j = 2 * d + hamK x y j := by
  unfold dst
  rw [Nat.min_eq_right (Nat.le_add_right _ _), Nat.sub_eq_zero_of_le (Nat.le_add_right _ _), Nat.add_sub_cancel_left, Nat.add_zero]
theorem min3 {a b c r : Nat} (h1 : a + 2 = r) (h2 : a ≤ b) (h3 : r ≤ c) : min (min a b + 2) c = r := by
  rw [Nat.min_eq_left h2, h1, Nat.min_eq_left h3]
theorem min3' {a b c r : Nat} (h1 : b + 2 = r) (h2 : b ≤ a) (h3 : r ≤ c) : min (min a b + 2) c = r := by
  rw [Nat.min_eq_right h2, h1, Nat.min_eq_left h3]
theorem min3'' {a b c : Nat} (h1 : c ≤ a + 2) (h2 : c ≤ b + 2) : min (min a b + 2) c = c := by
  refine Nat.min_eq_right ?_
  rcases Nat.le_total a b with q | q
  · rw [Nat.min_eq_left q]; exact h1
  · rw [Nat.min_eq_right q]; exact h2
theorem dst_step {x y : List Bool} {i j : Nat} {a b : Bool} (ha : x[j]? = some a) (hb : y[i]? = some b) (left : Nat) (hl : left = if j = 0 then 2 * i else dst x y (i + 1) j) :
    min (min left (dst x y i (j + 1)) + 2) (dst x y i j + (if i = j then (if b = a then 0 else 1) else 2)) = dst x y (i + 1) (j + 1) := by
  subst hl
  have z : hamK x y 0 = 0 := by simp [hamK, ham]
  rcases Nat.lt_trichotomy i j with h | h | h
  · obtain ⟨d, rfl⟩ := Nat.exists_eq_add_of_lt h
    have e1 : dst x y i (i + d + 1 + 1) = 2 * (d + 2) + hamK x y i := dst_r i (d + 2)
    have e2 : dst x y i (i + d + 1) = 2 * (d + 1) + hamK x y i := dst_r i (d + 1)
    have e3 : dst x y (i + 1) (i + d + 1) = 2 * d + hamK x y (i + 1) := by rw [Nat.add_right_comm]; exact dst_r (i + 1) d
    have e4 : dst x y (i + 1) (i + d + 1 + 1) = 2 * (d + 1) + hamK x y (i + 1) := by rw [Nat.add_right_comm i d 1]; exact dst_r (i + 1) (d + 1)
    obtain ⟨h1, h2⟩ := hamK_le x y i
    rw [if_neg (Nat.succ_ne_zero _), if_neg (Nat.ne_of_lt h), e1, e2, e3, e4]
    clear e1 e2 e3 e4 ha hb z h
    generalize hamK x y (i + 1) = H' at *
    generalize hamK x y i = H at *
    exact min3 (by lia) (by lia) (by lia)
  · subst h
    have e1 : dst x y i (i + 1) = 2 + hamK x y i := dst_r i 1
    have e2 : dst x y i i = hamK x y i := by have := dst_r (x := x) (y := y) i 0; rw [Nat.add_zero] at this; rw [this]; exact Nat.zero_add _
    have e3 : dst x y (i + 1) i = 2 + hamK x y i := dst_l i 1
    have e4 : dst x y (i + 1) (i + 1) = hamK x y (i + 1) := by have := dst_r (x := x) (y := y) (i + 1) 0; rw [Nat.add_zero] at this; rw [this]; exact Nat.zero_add _
    have e := hamK_succ ha hb
    rw [if_pos rfl, e1, e2, e3, e4, e]
    have hs : (if b = a then 0 else 1) = (if a = b then 0 else 1) := by
      by_cases q : a = b
      · rw [if_pos q, if_pos q.symm]
      · rw [if_neg q, if_neg (Ne.symm q)]
    have h1 : (if a = b then 0 else 1) ≤ 1 := by split <;> decide
    rw [hs]
    clear hs e1 e2 e3 e4 e ha hb
    generalize (if a = b then 0 else 1) = s at *
    by_cases h0 : i = 0
    · subst h0; rw [if_pos rfl, z]; exact min3'' (by lia) (by lia)
    · rw [if_neg h0]; clear z; generalize hamK x y i = H; exact min3'' (by lia) (by lia)
  · obtain ⟨d, rfl⟩ := Nat.exists_eq_add_of_lt h
    have e1 : dst x y (j + d + 1) (j + 1) = 2 * d + hamK x y (j + 1) := by rw [Nat.add_right_comm]; exact dst_l (j + 1) d
    have e2 : dst x y (j + d + 1) j = 2 * (d + 1) + hamK x y j := dst_l j (d + 1)
    have e3 : dst x y (j + d + 1 + 1) j = 2 * (d + 2) + hamK x y j := dst_l j (d + 2)
    have e4 : dst x y (j + d + 1 + 1) (j + 1) = 2 * (d + 1) + hamK x y (j + 1) := by rw [Nat.add_right_comm j d 1]; exact dst_l (j + 1) (d + 1)
    obtain ⟨h1, h2⟩ := hamK_le x y j
    rw [if_neg (Nat.ne_of_gt h), e1, e2, e3, e4]
    have hleft : 2 * d + hamK x y (j + 1) ≤ if j = 0 then 2 * (j + d + 1) else 2 * (d + 2) + hamK x y j := by
      clear e1 e2 e3 e4 ha hb h
      by_cases h0 : j = 0
      · subst h0; rw [if_pos rfl]; lia
      · rw [if_neg h0]; clear z; lia
    clear e1 e2 e3 e4 ha hb z h
    generalize (if j = 0 then 2 * (j + d + 1) else 2 * (d + 2) + hamK x y j) = lf at *
    generalize hamK x y (j + 1) = H' at *
    generalize hamK x y j = H at *
    exact min3' (by lia) hleft (by lia)
end Mine
end PartP4
section PartL2
open PySem PySem.W PyProof.Rows
set_option linter.unusedVariables false
set_option maxRecDepth 100000
namespace Mine
section
variable {prog : Program} {w : World} {c : Cx} {m : LM} {N : NM} {P : V → LM → NM → Prop}
theorem swap2 {env : Env} {sc : Scope} {ts : List Expr} {e : Expr} {ns : List Str} (hs : env.scope = sc) (h : swappedStores ts e { (default : Env) with scope := sc } = pure (some ns)) : swappedStores ts e env = pure (some ns) := by
  cases env; cases hs; exact h
theorem FE.block {env : Env} {sc : Scope} (E : FE env c sc) : env.blockKind = .function := by unfold Env.blockKind; rw [E.kind]; rfl
theorem seq_at {k : Int} {n j : Nat} (e : (if k < 0 then k + n else k) = (j : Int)) (h : j < n) : seqIndex? k n = some j := by
  show (if (decide (0 ≤ (if k < 0 then k + n else k)) && decide ((if k < 0 then k + n else k) < n)) = true then some (if k < 0 then k + n else k).toNat else none) = _
  rw [e, decide_eq_true (Int.natCast_nonneg j), decide_eq_true (Int.ofNat_lt.mpr h)]; rfl
theorem seqI {n : Nat} {i : Nat} (h : i < n) : seqIndex? (i : Int) n = some i := seq_at (if_neg (Int.not_lt.mpr (Int.natCast_nonneg i))) h
theorem seqN {n : Nat} {i : Nat} (h0 : 0 < i) (h : i ≤ n) : seqIndex? (-(i : Int)) n = some (n - i) := by
  refine seq_at ?_ (Nat.sub_lt (Nat.lt_of_lt_of_le h0 h) h0)
  rw [if_pos (Int.neg_neg_of_pos (Int.ofNat_lt.mpr h0)), Int.ofNat_sub h, Int.add_comm]; rfl
theorem rng_ok7 : ∀ n : _root_.Fin 7, Builtin.Range.small 2 (2 * ((n.val : Int) + 1)) 2 = true ∧ Builtin.Range.rangeSize 2 (2 * ((n.val : Int) + 1)) 2 = n.val := by decide
theorem rng_ok : ∀ n : Nat, n ≤ 6 → Builtin.Range.small 2 (2 * ((n : Int) + 1)) 2 = true ∧ Builtin.Range.rangeSize 2 (2 * ((n : Int) + 1)) 2 = n := fun n h => rng_ok7 ⟨n, Nat.lt_succ_of_le h⟩
theorem slicePost {env : Env} {sc : Scope} {nm : Str} {pp : Nat} {x1 t : List Bool} {p1 p2 p3 p4 p5 p6 : Pos} {k3 : Nat} (E : FE env c sc) (h1 : isLoc sc nm = true) (h2 : isLoc sc (Str.ofString "post") = true) (m1 : m nm = some (.str (sx (wd pp (x1 ++ t))))) (hl : (x1 ++ t).length ≤ 6) (m2 : m (Str.ofString "post") = some (.int (-(t.length : Int))))
    (h : P (.str (sx (wd pp x1))) m N) : Ev prog w c env (.Subscript (.Name nm p1) (.Slice none (some (.BoolOp .Or [.Name (Str.ofString "post") p2, .Constant .none k3 p3] p4)) none p5) p6) m N P := by
  refine Ev.sliceTo ?_
  refine Ev.nm E h1 m1 ?_
  refine ⟨_, rfl, by rw [sx_len, wd_len]; lia, ?_⟩
  refine Ev.or2 ?_
  refine Ev.nm E h2 m2 ?_
  refine Tu.int ?_
  refine ⟨fun r => ?_, fun r => ?_⟩
  · have r : 0 < t.length := by simp at r; exact List.length_pos_iff.mpr r
    refine .inl ⟨_, rfl, ?_⟩
    rw [slice_toN r, wd_len, wd_take]
    have e : (x1 ++ t).take ((x1 ++ t).length - t.length) = x1 := by simp
    rw [e]; exact h
  · have r : t = [] := by simp at r; exact r
    subst r
    refine Ev.none ?_
    refine .inr ⟨rfl, ?_⟩
    rw [slice_all, List.append_nil]; exact h
theorem row0 {x y : List Bool} : (List.range x.length).map (fun q : Nat => V.int (2 + q * 2)) = (List.range x.length).map fun q => V.int (dst x y 0 (q + 1)) := by
  refine List.map_congr_left fun q _ => ?_
  have z : hamK x y 0 = 0 := by simp [hamK, ham]
  have e : dst x y 0 (q + 1) = 2 * (q + 1) := by
    have := dst_r (x := x) (y := y) 0 (q + 1)
    rw [Nat.zero_add, z, Nat.add_zero] at this; exact this
  rw [e]
  congr 1
  lia
theorem dst_row0 {x y : List Bool} {i : Nat} : dst x y i 0 = 2 * i := by
  have z : hamK x y 0 = 0 := by simp [hamK, ham]
  unfold dst
  rw [show min i 0 = 0 by lia, z]; lia
theorem dst_due {x y : List Bool} {i : Nat} (hxy : x.length ≤ y.length) (hi : i < y.length) (hx : 0 < x.length) : dst x y (i + 1) (min (i + 1) x.length - 1 + 1) ≤ due x y := by
  rw [Nat.sub_add_cancel (Nat.le_min.mpr ⟨Nat.succ_pos _, hx⟩)]
  have h1 : hamK x y (min (i + 1) x.length) ≤ ham x y := by rw [← hamK_top hxy]; exact hamK_mono x y (Nat.min_le_right _ _)
  have hd : due x y = 2 * (y.length - x.length) + ham x y := by unfold due; rw [Nat.sub_eq_zero_of_le hxy, Nat.zero_add]
  rw [hd]
  rcases Nat.le_total (i + 1) x.length with q | q
  · rw [Nat.min_eq_left q] at h1 ⊢
    have := dst_r (x := x) (y := y) (i + 1) 0
    rw [Nat.add_zero] at this
    rw [this]
    exact Nat.add_le_add (Nat.mul_le_mul_left _ (Nat.zero_le _)) h1
  · rw [Nat.min_eq_right q] at h1 ⊢
    obtain ⟨d, e⟩ := Nat.exists_eq_add_of_le q
    rw [e, dst_l]
    exact Nat.add_le_add (Nat.mul_le_mul_left _ (Nat.le_sub_of_add_le (by rw [Nat.add_comm, ← e]; exact hi))) h1
theorem dst_top {x y : List Bool} (hxy : x.length ≤ y.length) : dst x y y.length x.length = due x y := by
  unfold dst due
  rw [show min y.length x.length = x.length by lia, hamK_top hxy]; lia
theorem subF_lt' {pp i j : Nat} {b d : Bool} (hi : pp + i < 6) (hj : pp + j < 6) : subF (lt (pp + i) b) (lt (pp + j) d) = ((if i = j then (if b = d then 0 else 1) else 2 : Nat) : Int) := by
  rw [subF_lt hi hj]
  by_cases h : i = j
  · rw [if_pos (by lia), if_pos h]; split <;> rfl
  · rw [if_neg (by lia), if_neg h]; rfl
theorem ite_min (a b : Nat) : (if (b : Int) < (a : Int) then (b : Int) else (a : Int)) = ((min a b : Nat) : Int) := by
  by_cases h : b < a
  · rw [if_pos (Int.ofNat_lt.mpr h), Nat.min_eq_right (Nat.le_of_lt h)]
  · rw [if_neg fun z => h (Int.ofNat_lt.mp z), Nat.min_eq_left (Nat.le_of_not_lt h)]
theorem min_eq (left up dg s : Nat) : (if (dg : Int) + (s : Int) < (if (up : Int) < (left : Int) then (up : Int) else (left : Int)) + 2 then (dg : Int) + (s : Int) else (if (up : Int) < (left : Int) then (up : Int) else (left : Int)) + 2) = ((min (min left up + 2) (dg + s) : Nat) : Int) := by
  rw [ite_min left up]
  exact ite_min (min left up + 2) (dg + s)
theorem NM.keep' {N N2 : NM} {a b : Addr} {o x y : AO} (hb : N b = some y) (h : N2 b = none) (e : N2 a = some o) (e' : N a = some o) : (N.put b x) a = some o := by
  rw [NM.put_ne fun q => by rw [q, h] at e; cases e]; exact e'
structure LvP (u v p x y : List Bool) (mx : Int) (m' : LM) : Prop where
  e1 : u = p ++ x
  e2 : v = p ++ y
  m1 : m' (Str.ofString "a") = some (.str (sx (wd 0 u)))
  m2 : m' (Str.ofString "b") = some (.str (sx (wd 0 v)))
  m3 : m' (Str.ofString "max_cost") = some (.int mx)
  m4 : m' (Str.ofString "pre") = some (.int p.length)
structure LvB (x y x1 y1 t : List Bool) (pp : Nat) (mx : Int) (m' : LM) : Prop where
  e5 : x = x1 ++ t
  e6 : y = y1 ++ t
  e7 : t ≠ [] → x1.length = y1.length
  n1 : m' (Str.ofString "a") = some (.str (sx (wd pp x)))
  n2 : m' (Str.ofString "b") = some (.str (sx (wd pp y)))
  n3 : m' (Str.ofString "max_cost") = some (.int mx)
  n4 : m' (Str.ofString "post") = some (.int (-(t.length : Int)))
structure LvC (x y : List Bool) (pp : Nat) (mx : Int) (m' : LM) : Prop where
  hd : mx = due x y
  hx0 : x ≠ []
  hxy : x.length ≤ y.length
  bY : pp + y.length ≤ 6
  k1 : m' (Str.ofString "a") = some (.str (sx (wd pp x)))
  k2 : m' (Str.ofString "b") = some (.str (sx (wd pp y)))
  k3 : m' (Str.ofString "max_cost") = some (.int mx)
structure LvJ (x y : List Bool) (pp : Nat) (mx : Int) (rw' : Addr) (N2 : NM) (i : Nat) (m : LM) (N : NM) : Prop where
  s5 : ∀ a o, N2 a = some o → N a = some o
  a1 : m (Str.ofString "a") = some (.str (sx (wd pp x)))
  a2 : m (Str.ofString "b") = some (.str (sx (wd pp y)))
  a3 : m (Str.ofString "max_cost") = some (.int mx)
  a4 : m (Str.ofString "row") = some (.ref rw')
  a5 : m (Str.ofString "result") = some (.int (if i = 0 then 0 else dst x y i x.length))
  a6 : N rw' = some (.list ((List.range x.length).map fun q => .int (dst x y i (q + 1))))
structure LvQ (x y : List Bool) (pp : Nat) (mx : Int) (rw' : Addr) (N2 : NM) (i : Nat) (m' : LM) (N' : NM) : Prop where
  s6 : ∀ a o, N2 a = some o → N' a = some o
  c1 : m' (Str.ofString "a") = some (.str (sx (wd pp x)))
  c2 : m' (Str.ofString "b") = some (.str (sx (wd pp y)))
  c3 : m' (Str.ofString "max_cost") = some (.int mx)
  c4 : m' (Str.ofString "row") = some (.ref rw')
  c5 : m' (Str.ofString "result") = some (.int (dst x y (i + 1) x.length))
  c6 : ∃ mn : Int, m' (Str.ofString "minimum") = some (.int mn) ∧ ∀ q : Nat, q < x.length → mn ≤ dst x y (i + 1) (q + 1)
  c8 : N' rw' = some (.list ((List.range x.length).map fun q => .int (dst x y (i + 1) (q + 1))))
structure LvK (x y : List Bool) (pp : Nat) (mx : Int) (rw' : Addr) (N2 : NM) (i : Nat) (z : V) (j : Nat) (m : LM) (N : NM) : Prop where
  s6 : ∀ a o, N2 a = some o → N a = some o
  b1 : m (Str.ofString "a") = some (.str (sx (wd pp x)))
  b2 : m (Str.ofString "b") = some (.str (sx (wd pp y)))
  b3 : m (Str.ofString "max_cost") = some (.int mx)
  b4 : m (Str.ofString "row") = some (.ref rw')
  b5 : m (Str.ofString "bchar") = some z
  b6 : m (Str.ofString "distance") = some (.int (dst x y i j))
  b7 : m (Str.ofString "result") = some (.int ((if j = 0 then 2 * i else dst x y (i + 1) j : Nat)))
  b8 : ∃ mn : Int, m (Str.ofString "minimum") = some (.int mn) ∧ ∀ q : Nat, q < j → mn ≤ dst x y (i + 1) (q + 1)
  b10 : N rw' = some (.list ((List.range x.length).map fun q => .int (if q < j then dst x y (i + 1) (q + 1) else dst x y i (q + 1) : Nat)))
set_option maxHeartbeats 4000000 in
theorem lev_spec {u v : List Bool} {mx : Int} (F : Fit w c 2) (hu : u.length ≤ 6) (hv : v.length ≤ 6) (hm : mx = due u v) (hP : P (.int mx) m N) : Ca prog w c (.ref 70) [.str (sx (wd 0 u)), .str (sx (wd 0 v)), .int mx] m N P := by
  refine Ca.fn (names := [Str.ofString "a", Str.ofString "b", Str.ofString "max_cost"]) F.B (by have := F.d; lia) (fn_levenshtein_distance w) (cd_levenshtein_distance w) (bd_levenshtein_distance w) ?_ rfl ?_ ?_ ?_ ?_ ?_ ?_
  · intro vs hl
    obtain ⟨a, b, d, rfl⟩ := vs3 hl
    exact ba_levenshtein_distance w a b d
  · rw [sc_levenshtein_distance]; decide
  · rw [sc_levenshtein_distance]; decide
  · intro c' hA hB hF
    have F1 : Fit w c' 1 := F.deep hA hB
    have hh : c'.A.handled = none := F1.h
    have E : FE (callEnv (fdOf w 70) c'.L 70) c' (scopeOf (fnStmt 13)) := callEnv_FE w (sc_levenshtein_distance w) rfl rfl rfl rfl
    generalize callEnv (fdOf w 70) c'.L 70 = env at E hA
    refine Es.cons ?_
    refine Ex.if ?_
    (repeat (first | with_reducible refine Ev.nm (by assumption) (by with_unfolding_all rfl) (by repeat (first | with_reducible assumption | with_reducible exact LM.put_same _ _ _ | with_reducible refine (LM.put_ne (by decide)).trans ?_ | with_unfolding_all rfl)) ?_ | with_reducible refine Cp.eqS ?_ | with_reducible refine Tu.bool ?_ | with_reducible refine Te.cmp ?_ (by with_unfolding_all rfl)))
    refine ⟨fun q => ?_, fun q => ?_⟩
    · have q : wd 0 u = wd 0 v := by simpa using q
      have q : u = v := wd_inj (by lia) (by lia) q
      subst q
      (repeat (first | with_reducible refine Ev.int ?_ | with_reducible refine Es.cons ?_ | with_reducible refine Ex.ret ?_))
      have e : mx = 0 := by rw [hm]; unfold due; rw [ham_self]; simp
      rw [e] at hP
      exact hP
    (repeat (first | with_reducible refine Ev.int ?_ | with_reducible refine Es.cons ?_ | with_reducible refine Es.nil ?_ | with_reducible refine Sn.nm (by assumption) (by with_unfolding_all rfl) ?_ | with_reducible refine Ex.assign ?_ (by with_unfolding_all rfl)))
    -- the like beginning
    refine Ex.cutR (fun m' N' => N' = N ∧ ∃ p x y, LvP u v p x y mx m') (fun R kq => ?_) ?_
    · refine Ex.while ?_
      refine (?_ : ∀ (k : Nat) (p x y : List Bool) (m : LM), x.length = k → u = p ++ x → v = p ++ y → m (Str.ofString "a") = some (.str (sx (wd 0 u))) → m (Str.ofString "b") = some (.str (sx (wd 0 v))) → m (Str.ofString "max_cost") = some (.int mx) → m (Str.ofString "pre") = some (.int p.length) → Wh prog w c' env _ _ m N _ _)
        _ [] u v _ rfl rfl rfl (by with_unfolding_all rfl) (by with_unfolding_all rfl) (by with_unfolding_all rfl) (LM.put_same _ _ _)
      intro k
      induction k with
      | zero =>
        intro p x y m hk e1 e2 m1 m2 m3 m4
        have : x = [] := List.eq_nil_of_length_eq_zero hk
        subst this
        refine Wh.turn ?_
        (repeat (first | with_reducible refine Ev.nm (by assumption) (by with_unfolding_all rfl) (by repeat (first | with_reducible assumption | with_reducible exact LM.put_same _ _ _ | with_reducible refine (LM.put_ne (by decide)).trans ?_ | with_unfolding_all rfl)) ?_ | with_reducible refine Ev.sliceFrom ?_ | with_reducible refine Te.and ?_ | with_reducible refine Te.plain ?_ (by with_unfolding_all rfl)))
        refine ⟨_, rfl, by rw [sx_len, wd_len]; lia, ?_⟩
        (repeat (first | with_reducible refine Ev.nm (by assumption) (by with_unfolding_all rfl) (by repeat (first | with_reducible assumption | with_reducible exact LM.put_same _ _ _ | with_reducible refine (LM.put_ne (by decide)).trans ?_ | with_unfolding_all rfl)) ?_))
        refine ⟨_, rfl, ?_⟩
        rw [slice_from (by rw [wd_len, e1]; simp), wd_drop]
        have e3 : u.drop p.length = [] := by rw [e1]; simp
        rw [e3]
        refine Tu.str (by rw [wd_len]; simp) ?_
        refine ⟨fun r => by simp [wd] at r, fun _ => ?_⟩
        refine ⟨fun r => by simp at r, fun _ => ?_⟩
        exact kq _ _ ⟨rfl, p, [], y, e1, e2, m1, m2, m3, m4⟩
      | succ k ih =>
        intro p x y m hk e1 e2 m1 m2 m3 m4
        cases x with
        | nil => simp at hk
        | cons a x =>
          have lu : u.length = p.length + (x.length + 1) := by rw [e1]; simp
          have lv : v.length = p.length + y.length := by rw [e2]; simp
          refine Wh.turn ?_
          (repeat (first | with_reducible refine Ev.nm (by assumption) (by with_unfolding_all rfl) (by repeat (first | with_reducible assumption | with_reducible exact LM.put_same _ _ _ | with_reducible refine (LM.put_ne (by decide)).trans ?_ | with_unfolding_all rfl)) ?_ | with_reducible refine Ev.sliceFrom ?_ | with_reducible refine Te.and ?_ | with_reducible refine Te.plain ?_ (by with_unfolding_all rfl)))
          refine ⟨_, rfl, by rw [sx_len, wd_len]; lia, ?_⟩
          (repeat (first | with_reducible refine Ev.nm (by assumption) (by with_unfolding_all rfl) (by repeat (first | with_reducible assumption | with_reducible exact LM.put_same _ _ _ | with_reducible refine (LM.put_ne (by decide)).trans ?_ | with_unfolding_all rfl)) ?_))
          refine ⟨_, rfl, ?_⟩
          rw [slice_from (by rw [wd_len]; lia), wd_drop]
          have e3 : u.drop p.length = a :: x := by rw [e1]; simp
          rw [e3]
          refine Tu.str (by rw [wd_len]; simp; lia) ?_
          refine ⟨fun _ => ?_, fun r => by simp [wd] at r⟩
          (repeat (first | with_reducible refine Ev.nm (by assumption) (by with_unfolding_all rfl) (by repeat (first | with_reducible assumption | with_reducible exact LM.put_same _ _ _ | with_reducible refine (LM.put_ne (by decide)).trans ?_ | with_unfolding_all rfl)) ?_ | with_reducible refine Ev.sliceFrom ?_ | with_reducible refine Te.and ?_ | with_reducible refine Te.plain ?_ (by with_unfolding_all rfl)))
          refine ⟨_, rfl, by rw [sx_len, wd_len]; lia, ?_⟩
          (repeat (first | with_reducible refine Ev.nm (by assumption) (by with_unfolding_all rfl) (by repeat (first | with_reducible assumption | with_reducible exact LM.put_same _ _ _ | with_reducible refine (LM.put_ne (by decide)).trans ?_ | with_unfolding_all rfl)) ?_))
          refine ⟨_, rfl, ?_⟩
          rw [slice_from (by rw [wd_len]; lia), wd_drop]
          have e4 : v.drop p.length = y := by rw [e2]; simp
          rw [e4]
          refine Tu.str (by rw [wd_len]; lia) ?_
          cases y with
          | nil =>
            refine ⟨fun r => by simp [wd] at r, fun _ => ?_⟩
            refine ⟨fun r => by simp at r, fun _ => ?_⟩
            exact kq _ _ ⟨rfl, p, a :: x, [], e1, e2, m1, m2, m3, m4⟩
          | cons b y =>
            simp only [List.length_cons] at lv
            refine ⟨fun _ => ?_, fun r => by simp [wd] at r⟩
            (repeat (first | with_reducible refine Ev.nm (by assumption) (by with_unfolding_all rfl) (by repeat (first | with_reducible assumption | with_reducible exact LM.put_same _ _ _ | with_reducible refine (LM.put_ne (by decide)).trans ?_ | with_unfolding_all rfl)) ?_ | with_reducible refine Ev.sub ?_ | with_reducible refine Te.cmp ?_ (by with_unfolding_all rfl) | with_reducible refine Te.and ?_))
            have ga : (wd 0 u)[p.length]? = some (lt p.length a) := by rw [wd_get, e1]; simp
            have gb : (wd 0 v)[p.length]? = some (lt p.length b) := by rw [wd_get, e2]; simp
            refine Ev.strItem (by lia) (by lia) (by rw [seqI (by rw [wd_len]; lia)]; exact ga) ?_ (by with_unfolding_all rfl)
            (repeat (first | with_reducible refine Ev.nm (by assumption) (by with_unfolding_all rfl) (by repeat (first | with_reducible assumption | with_reducible exact LM.put_same _ _ _ | with_reducible refine (LM.put_ne (by decide)).trans ?_ | with_unfolding_all rfl)) ?_ | with_reducible refine Ev.sub ?_))
            refine Ev.strItem (by lia) (by lia) (by rw [seqI (by rw [wd_len]; lia)]; exact gb) ?_ (by with_unfolding_all rfl)
            (repeat (first | with_reducible refine Cp.eqS ?_ | with_reducible refine Tu.bool ?_))
            refine ⟨fun r => ?_, fun r => ?_⟩
            · have r : a = b := by
                have : lt p.length a = lt p.length b := by simpa using r
                exact (lt_inj (by lia) (by lia) this).2
              subst r
              (repeat (first | with_reducible refine Te.and0 ?_))
              refine ⟨fun _ => ?_, nofun⟩
              refine Es.cons ?_
              refine Ex.aug E.L E.kind (isLoc_k E (by with_unfolding_all rfl)) m4 ?_
              (repeat (first | with_reducible refine Ev.int ?_ | with_reducible refine Es.nil ?_ | with_reducible refine Ib.addI ?_))
              refine ih (p ++ [a]) x y _ (by simpa using hk) (by rw [e1]; simp) (by rw [e2]; simp) ?_ ?_ ?_ ?_
              · exact (LM.put_ne (by decide)).trans m1
              · exact (LM.put_ne (by decide)).trans m2
              · exact (LM.put_ne (by decide)).trans m3
              · rw [LM.put_same]; simp
            · refine ⟨nofun, fun _ => ?_⟩
              exact kq _ _ ⟨rfl, p, a :: x, b :: y, e1, e2, m1, m2, m3, m4⟩
    intro m' N1 I
    refine hideG fun G kG => ?_
    obtain ⟨rfl, p, x, y, e1, e2, m1, m2, m3, m4⟩ := I
    refine kG ?_
    clear kG
    have lu : u.length = p.length + x.length := by rw [e1]; simp
    have lv : v.length = p.length + y.length := by rw [e2]; simp
    have hd : mx = due x y := by
      rw [hm, e1, e2]; unfold due; rw [ham_pre]; simp only [List.length_append]; lia
    (repeat (first | with_reducible refine Ev.nm (by assumption) (by with_unfolding_all rfl) (by repeat (first | with_reducible assumption | with_reducible exact LM.put_same _ _ _ | with_reducible refine (LM.put_ne (by decide)).trans ?_ | with_unfolding_all rfl)) ?_ | with_reducible refine Ev.sliceFrom ?_ | with_reducible refine Es.cons ?_ | with_reducible refine Ex.assign ?_ (by with_unfolding_all rfl)))
    refine ⟨_, rfl, by rw [sx_len, wd_len]; lia, ?_⟩
    (repeat (first | with_reducible refine Ev.nm (by assumption) (by with_unfolding_all rfl) (by repeat (first | with_reducible assumption | with_reducible exact LM.put_same _ _ _ | with_reducible refine (LM.put_ne (by decide)).trans ?_ | with_unfolding_all rfl)) ?_))
    refine ⟨_, rfl, ?_⟩
    rw [slice_from (by rw [wd_len]; lia), wd_drop, show u.drop p.length = x by rw [e1]; simp]
    (repeat (first | with_reducible refine Ev.nm (by assumption) (by with_unfolding_all rfl) (by repeat (first | with_reducible assumption | with_reducible exact LM.put_same _ _ _ | with_reducible refine (LM.put_ne (by decide)).trans ?_ | with_unfolding_all rfl)) ?_ | with_reducible refine Ev.sliceFrom ?_ | with_reducible refine Es.cons ?_ | with_reducible refine Sn.nm (by assumption) (by with_unfolding_all rfl) ?_ | with_reducible refine Ex.assign ?_ (by with_unfolding_all rfl)))
    refine ⟨_, rfl, by rw [sx_len, wd_len]; lia, ?_⟩
    (repeat (first | with_reducible refine Ev.nm (by assumption) (by with_unfolding_all rfl) (by repeat (first | with_reducible assumption | with_reducible exact LM.put_same _ _ _ | with_reducible refine (LM.put_ne (by decide)).trans ?_ | with_unfolding_all rfl)) ?_))
    refine ⟨_, rfl, ?_⟩
    rw [slice_from (by rw [wd_len]; lia), wd_drop, show v.drop p.length = y by rw [e2]; simp]
    (repeat (first | with_reducible refine Ev.int ?_ | with_reducible refine Es.cons ?_ | with_reducible refine Sn.nm (by assumption) (by with_unfolding_all rfl) ?_ | with_reducible refine Ex.assign ?_ (by with_unfolding_all rfl)))
    rw [Nat.zero_add]
    generalize hp : p.length = pp at *
    -- the like end
    refine Ex.cutR (fun m' N' => N' = N1 ∧ ∃ x1 y1 t, LvB x y x1 y1 t pp mx m') (fun R kq => ?_) ?_
    · refine Ex.while ?_
      refine (?_ : ∀ (k : Nat) (x1 y1 t : List Bool) (m : LM), x1.length = k → x = x1 ++ t → y = y1 ++ t → (t ≠ [] → x1.length = y1.length) → m (Str.ofString "a") = some (.str (sx (wd pp x))) → m (Str.ofString "b") = some (.str (sx (wd pp y))) → m (Str.ofString "max_cost") = some (.int mx) → m (Str.ofString "post") = some (.int (-(t.length : Int))) → Wh prog w c' env _ _ m N1 _ _)
        _ x y [] _ rfl (by simp) (by simp) (fun h => absurd rfl h) ?_ ?_ ?_ ?_
      rotate_left
      · repeat (first | with_reducible exact LM.put_same _ _ _ | with_reducible refine (LM.put_ne (by decide)).trans ?_)
      · repeat (first | with_reducible exact LM.put_same _ _ _ | with_reducible refine (LM.put_ne (by decide)).trans ?_)
      · repeat (first | with_reducible assumption | with_reducible refine (LM.put_ne (by decide)).trans ?_)
      · rw [LM.put_same]; simp
      intro k
      induction k with
      | zero =>
        intro x1 y1 t m hk e5 e6 e7 n1 n2 n3 n4
        have : x1 = [] := List.eq_nil_of_length_eq_zero hk
        subst this
        refine Wh.turn ?_
        refine Te.and ?_
        refine Te.plain ?_ (by with_unfolding_all rfl)
        refine slicePost (x1 := []) (t := t) E (by with_unfolding_all rfl) (by with_unfolding_all rfl) (by rw [← e5]; exact n1) (by rw [← e5]; lia) n4 ?_
        refine Tu.str (by simp [wd]) ?_
        refine ⟨fun r => by simp [wd] at r, fun _ => ?_⟩
        refine ⟨fun r => by simp at r, fun _ => ?_⟩
        exact kq _ _ ⟨rfl, [], y1, t, e5, e6, e7, n1, n2, n3, n4⟩
      | succ k ih =>
        intro x1 y1 t m hk e5 e6 e7 n1 n2 n3 n4
        have lx : x.length = x1.length + t.length := by rw [e5]; simp
        have ly : y.length = y1.length + t.length := by rw [e6]; simp
        obtain ⟨x2, a, hx⟩ : ∃ x2 a, x1 = x2 ++ [a] := ⟨x1.dropLast, x1.getLast (fun h => by rw [h] at hk; simp at hk), (List.dropLast_concat_getLast _).symm⟩
        have lx2 : x1.length = x2.length + 1 := by rw [hx]; simp
        refine Wh.turn ?_
        refine Te.and ?_
        refine Te.plain ?_ (by with_unfolding_all rfl)
        refine slicePost (x1 := x1) (t := t) E (by with_unfolding_all rfl) (by with_unfolding_all rfl) (by rw [← e5]; exact n1) (by rw [← e5]; lia) n4 ?_
        refine Tu.str (by rw [wd_len]; lia) ?_
        refine ⟨fun _ => ?_, fun r => ?_⟩
        rotate_left
        · exfalso
          have : wd pp x1 = [] := by simpa using r
          have := congrArg List.length this
          rw [wd_len, List.length_nil] at this; lia
        refine Te.and ?_
        refine Te.plain ?_ (by with_unfolding_all rfl)
        refine slicePost (x1 := y1) (t := t) E (by with_unfolding_all rfl) (by with_unfolding_all rfl) (by rw [← e6]; exact n2) (by rw [← e6]; lia) n4 ?_
        refine Tu.str (by rw [wd_len]; lia) ?_
        refine ⟨fun r => ?_, fun _ => ?_⟩
        rotate_left
        · refine ⟨fun r => by simp at r, fun _ => ?_⟩
          exact kq _ _ ⟨rfl, x1, y1, t, e5, e6, e7, n1, n2, n3, n4⟩
        have hy0 : y1 ≠ [] := fun h => by rw [h] at r; simp [wd] at r
        obtain ⟨y2, b, hy⟩ : ∃ y2 b, y1 = y2 ++ [b] := ⟨y1.dropLast, y1.getLast hy0, (List.dropLast_concat_getLast _).symm⟩
        have ly2 : y1.length = y2.length + 1 := by rw [hy]; simp
        (repeat (first | with_reducible refine Ev.nm (by assumption) (by with_unfolding_all rfl) (by repeat (first | with_reducible assumption | with_reducible exact LM.put_same _ _ _ | with_reducible refine (LM.put_ne (by decide)).trans ?_ | with_unfolding_all rfl)) ?_ | with_reducible refine Ev.bin ?_ | with_reducible refine Ev.int ?_ | with_reducible refine Ev.sub ?_ | with_reducible refine Bi.subI ?_ | with_reducible refine Te.cmp ?_ (by with_unfolding_all rfl) | with_reducible refine Te.and ?_))
        have ei : -(t.length : Int) - 1 = -((t.length + 1 : Nat) : Int) := by lia
        rw [ei]
        have ga : (wd pp x)[x2.length]? = some (lt (pp + x2.length) a) := by rw [wd_get, e5, hx]; simp
        have gb : (wd pp y)[y2.length]? = some (lt (pp + y2.length) b) := by rw [wd_get, e6, hy]; simp
        refine Ev.strItem (by lia) (by lia) (by rw [seqN (by lia) (by rw [wd_len]; lia), wd_len, show x.length - (t.length + 1) = x2.length by lia]; exact ga) ?_ (by with_unfolding_all rfl)
        (repeat (first | with_reducible refine Ev.nm (by assumption) (by with_unfolding_all rfl) (by repeat (first | with_reducible assumption | with_reducible exact LM.put_same _ _ _ | with_reducible refine (LM.put_ne (by decide)).trans ?_ | with_unfolding_all rfl)) ?_ | with_reducible refine Ev.bin ?_ | with_reducible refine Ev.int ?_ | with_reducible refine Ev.sub ?_ | with_reducible refine Bi.subI ?_))
        rw [ei]
        refine Ev.strItem (by lia) (by lia) (by rw [seqN (by lia) (by rw [wd_len]; lia), wd_len, show y.length - (t.length + 1) = y2.length by lia]; exact gb) ?_ (by with_unfolding_all rfl)
        (repeat (first | with_reducible refine Cp.eqS ?_ | with_reducible refine Tu.bool ?_))
        refine ⟨fun r => ?_, fun r => ?_⟩
        · have r : lt (pp + x2.length) a = lt (pp + y2.length) b := by simpa using r
          obtain ⟨r1, r2⟩ := lt_inj (by lia) (by lia) r
          subst r2
          (repeat (first | with_reducible refine Te.and0 ?_))
          refine ⟨fun _ => ?_, nofun⟩
          refine Es.cons ?_
          refine Ex.aug E.L E.kind (isLoc_k E (by with_unfolding_all rfl)) n4 ?_
          (repeat (first | with_reducible refine Ev.int ?_ | with_reducible refine Es.nil ?_ | with_reducible refine Ib.subI ?_))
          refine ih x2 y2 (a :: t) _ (by lia) (by rw [e5, hx]; simp) (by rw [e6, hy]; simp) (fun _ => by lia) ?_ ?_ ?_ ?_
          · exact (LM.put_ne (by decide)).trans n1
          · exact (LM.put_ne (by decide)).trans n2
          · exact (LM.put_ne (by decide)).trans n3
          · rw [LM.put_same]
            congr 2
        · refine ⟨nofun, fun _ => ?_⟩
          exact kq _ _ ⟨rfl, x1, y1, t, e5, e6, e7, n1, n2, n3, n4⟩
    intro m' N2 I
    refine hideG fun G kG => ?_
    obtain ⟨rfl, x1, y1, t, e5, e6, e7, n1, n2, n3, n4⟩ := I
    refine kG ?_
    clear kG
    have lx : x.length = x1.length + t.length := by rw [e5]; simp
    have ly : y.length = y1.length + t.length := by rw [e6]; simp
    have hd2 : mx = due x1 y1 := by
      rw [hd]
      by_cases ht : t = []
      · rw [e5, e6, ht]; simp
      · rw [e5, e6]; unfold due; rw [ham_post _ _ _ (e7 ht)]; simp only [List.length_append]; lia
    refine Es.cons ?_
    refine Ex.assign ?_ (by with_unfolding_all rfl)
    refine slicePost (x1 := x1) (t := t) E (by with_unfolding_all rfl) (by with_unfolding_all rfl) (by rw [← e5]; exact n1) (by rw [← e5]; lia) n4 ?_
    refine Sn.nm E (by with_unfolding_all rfl) ?_
    refine Es.cons ?_
    refine Ex.assign ?_ (by with_unfolding_all rfl)
    refine slicePost (x1 := y1) (t := t) E (by with_unfolding_all rfl) (by with_unfolding_all rfl) (by rw [← e6]; exact (LM.put_ne (by decide)).trans n2) (by rw [← e6]; lia) ((LM.put_ne (by decide)).trans n4) ?_
    refine Sn.nm E (by with_unfolding_all rfl) ?_
    have k1 : ((m'.put (Str.ofString "a") (.str (sx (wd pp x1)))).put (Str.ofString "b") (.str (sx (wd pp y1)))) (Str.ofString "a") = some (.str (sx (wd pp x1))) := (LM.put_ne (by decide)).trans (LM.put_same _ _ _)
    have k2 : ((m'.put (Str.ofString "a") (.str (sx (wd pp x1)))).put (Str.ofString "b") (.str (sx (wd pp y1)))) (Str.ofString "b") = some (.str (sx (wd pp y1))) := LM.put_same _ _ _
    have k3 : ((m'.put (Str.ofString "a") (.str (sx (wd pp x1)))).put (Str.ofString "b") (.str (sx (wd pp y1)))) (Str.ofString "max_cost") = some (.int mx) := (LM.put_ne (by decide)).trans ((LM.put_ne (by decide)).trans n3)
    generalize (m'.put (Str.ofString "a") (.str (sx (wd pp x1)))).put (Str.ofString "b") (.str (sx (wd pp y1))) = mm at k1 k2 k3
    have bx : pp + x1.length ≤ 6 := by lia
    have bY : pp + y1.length ≤ 6 := by lia
    clear n1 n2 n3 n4 e5 e6 e7 m1 m3 m4 e1 e2 hd hm
    refine Es.cons ?_
    refine Ex.if ?_
    (repeat (first | with_reducible refine Ev.nm (by assumption) (by with_unfolding_all rfl) (by repeat (first | with_reducible assumption | with_reducible exact LM.put_same _ _ _ | with_reducible refine (LM.put_ne (by decide)).trans ?_ | with_unfolding_all rfl)) ?_ | with_reducible refine Te.not ?_ | with_reducible refine Te.or ?_ | with_reducible refine Te.plain ?_ (by with_unfolding_all rfl)))
    refine Tu.str (by rw [wd_len]; lia) ?_
    have wnil : ∀ z : List Bool, wd pp z = [] ↔ z = [] := fun z => ⟨fun h => List.eq_nil_of_length_eq_zero (by rw [← wd_len pp z, h]; rfl), fun h => by rw [h]; rfl⟩
    have ret0 : x1 = [] ∨ y1 = [] → mx = 2 * ((x1.length : Int) + y1.length) := fun h => by
      rw [hd2]; unfold due
      rcases h with h | h
      · subst h; simp [ham]
      · subst h; rw [ham_nil]; simp
    refine ⟨fun r => ?_, fun r => ?_⟩
    · have r : x1 = [] := by simpa [wnil] using r
      refine ⟨fun _ => ?_, nofun⟩
      (repeat (first | with_reducible refine Ev.nm (by assumption) (by with_unfolding_all rfl) (by repeat (first | with_reducible assumption | with_reducible exact LM.put_same _ _ _ | with_reducible refine (LM.put_ne (by decide)).trans ?_ | with_unfolding_all rfl)) ?_ | with_reducible refine Ev.bin ?_ | with_reducible refine Ev.call ?_ (by with_unfolding_all rfl) (by with_unfolding_all rfl) (by with_unfolding_all rfl) | with_reducible refine Ev.b_len (by assumption) (by assumption) (by with_unfolding_all rfl) ⟨clb_bi, ?_⟩ | with_reducible refine Ev.g_MOVE_COST (by assumption) (by assumption) (by with_unfolding_all rfl) ?_ | with_reducible refine Es.cons ?_ | with_reducible refine Ar.cons ?_ (by with_unfolding_all rfl) | with_reducible refine Ar.nil ?_ | with_reducible refine Ex.ret ?_))
      refine Ca.lenS (by rw [wd_len]; lia) ?_
      (repeat (first | with_reducible refine Ev.nm (by assumption) (by with_unfolding_all rfl) (by repeat (first | with_reducible assumption | with_reducible exact LM.put_same _ _ _ | with_reducible refine (LM.put_ne (by decide)).trans ?_ | with_unfolding_all rfl)) ?_ | with_reducible refine Ev.call ?_ (by with_unfolding_all rfl) (by with_unfolding_all rfl) (by with_unfolding_all rfl) | with_reducible refine Ev.b_len (by assumption) (by assumption) (by with_unfolding_all rfl) ⟨clb_bi, ?_⟩ | with_reducible refine Ar.cons ?_ (by with_unfolding_all rfl) | with_reducible refine Ar.nil ?_))
      refine Ca.lenS (by rw [wd_len]; lia) ?_
      rw [wd_len, wd_len]
      (repeat (first | with_reducible refine Bi.addI ?_ | with_reducible refine Bi.mulI (by decide) (by decide) ?_))
      rw [← ret0 (.inl r)]
      exact hP
    have hx0 : x1 ≠ [] := by simpa [wnil] using r
    (repeat (first | with_reducible refine Ev.nm (by assumption) (by with_unfolding_all rfl) (by repeat (first | with_reducible assumption | with_reducible exact LM.put_same _ _ _ | with_reducible refine (LM.put_ne (by decide)).trans ?_ | with_unfolding_all rfl)) ?_ | with_reducible refine Te.not ?_ | with_reducible refine Te.or ?_ | with_reducible refine Te.plain ?_ (by with_unfolding_all rfl)))
    refine Tu.str (by rw [wd_len]; lia) ?_
    refine ⟨fun r => ?_, fun r => ?_⟩
    · have r : y1 = [] := by simpa [wnil] using r
      refine ⟨fun _ => ?_, nofun⟩
      (repeat (first | with_reducible refine Ev.nm (by assumption) (by with_unfolding_all rfl) (by repeat (first | with_reducible assumption | with_reducible exact LM.put_same _ _ _ | with_reducible refine (LM.put_ne (by decide)).trans ?_ | with_unfolding_all rfl)) ?_ | with_reducible refine Ev.bin ?_ | with_reducible refine Ev.call ?_ (by with_unfolding_all rfl) (by with_unfolding_all rfl) (by with_unfolding_all rfl) | with_reducible refine Ev.b_len (by assumption) (by assumption) (by with_unfolding_all rfl) ⟨clb_bi, ?_⟩ | with_reducible refine Ev.g_MOVE_COST (by assumption) (by assumption) (by with_unfolding_all rfl) ?_ | with_reducible refine Es.cons ?_ | with_reducible refine Ar.cons ?_ (by with_unfolding_all rfl) | with_reducible refine Ar.nil ?_ | with_reducible refine Ex.ret ?_))
      refine Ca.lenS (by rw [wd_len]; lia) ?_
      (repeat (first | with_reducible refine Ev.nm (by assumption) (by with_unfolding_all rfl) (by repeat (first | with_reducible assumption | with_reducible exact LM.put_same _ _ _ | with_reducible refine (LM.put_ne (by decide)).trans ?_ | with_unfolding_all rfl)) ?_ | with_reducible refine Ev.call ?_ (by with_unfolding_all rfl) (by with_unfolding_all rfl) (by with_unfolding_all rfl) | with_reducible refine Ev.b_len (by assumption) (by assumption) (by with_unfolding_all rfl) ⟨clb_bi, ?_⟩ | with_reducible refine Ar.cons ?_ (by with_unfolding_all rfl) | with_reducible refine Ar.nil ?_))
      refine Ca.lenS (by rw [wd_len]; lia) ?_
      rw [wd_len, wd_len]
      (repeat (first | with_reducible refine Bi.addI ?_ | with_reducible refine Bi.mulI (by decide) (by decide) ?_))
      rw [← ret0 (.inr r)]
      exact hP
    have hy0 : y1 ≠ [] := by simpa [wnil] using r
    (repeat (first | with_reducible refine Te.or0 ?_))
    refine ⟨nofun, fun _ => ?_⟩
    (repeat (first | with_reducible refine Es.cons ?_ | with_reducible refine Es.nil ?_))
    -- no long texts
    refine Ex.if ?_
    (repeat (first | with_reducible refine Ev.nm (by assumption) (by with_unfolding_all rfl) (by repeat (first | with_reducible assumption | with_reducible exact LM.put_same _ _ _ | with_reducible refine (LM.put_ne (by decide)).trans ?_ | with_unfolding_all rfl)) ?_ | with_reducible refine Ev.call ?_ (by with_unfolding_all rfl) (by with_unfolding_all rfl) (by with_unfolding_all rfl) | with_reducible refine Ev.b_len (by assumption) (by assumption) (by with_unfolding_all rfl) ⟨clb_bi, ?_⟩ | with_reducible refine Ar.cons ?_ (by with_unfolding_all rfl) | with_reducible refine Ar.nil ?_ | with_reducible refine Te.cmp ?_ (by with_unfolding_all rfl) | with_reducible refine Te.or ?_))
    refine Ca.lenS (by rw [wd_len]; lia) ?_
    rw [wd_len]
    (repeat (first | with_reducible refine Ev.g_MAX_STRING_SIZE (by assumption) (by assumption) (by with_unfolding_all rfl) ?_ | with_reducible refine Cp.gtI ?_ | with_reducible refine Tu.bool ?_))
    refine ⟨fun r => by simp at r; exfalso; lia, fun _ => ?_⟩
    (repeat (first | with_reducible refine Ev.nm (by assumption) (by with_unfolding_all rfl) (by repeat (first | with_reducible assumption | with_reducible exact LM.put_same _ _ _ | with_reducible refine (LM.put_ne (by decide)).trans ?_ | with_unfolding_all rfl)) ?_ | with_reducible refine Ev.call ?_ (by with_unfolding_all rfl) (by with_unfolding_all rfl) (by with_unfolding_all rfl) | with_reducible refine Ev.b_len (by assumption) (by assumption) (by with_unfolding_all rfl) ⟨clb_bi, ?_⟩ | with_reducible refine Ar.cons ?_ (by with_unfolding_all rfl) | with_reducible refine Ar.nil ?_ | with_reducible refine Te.cmp ?_ (by with_unfolding_all rfl) | with_reducible refine Te.or ?_))
    refine Ca.lenS (by rw [wd_len]; lia) ?_
    rw [wd_len]
    (repeat (first | with_reducible refine Ev.g_MAX_STRING_SIZE (by assumption) (by assumption) (by with_unfolding_all rfl) ?_ | with_reducible refine Cp.gtI ?_ | with_reducible refine Tu.bool ?_))
    refine ⟨fun r => by simp at r; exfalso; lia, fun _ => ?_⟩
    (repeat (first | with_reducible refine Te.or0 ?_))
    refine ⟨nofun, fun _ => ?_⟩
    (repeat (first | with_reducible refine Es.cons ?_ | with_reducible refine Es.nil ?_))
    refine Ex.cutR (fun m' N' => (∀ a o, N2 a = some o → N' a = some o) ∧ ∃ x y, LvC x y pp mx m') (fun R kq => ?_) ?_
    · refine Ex.if ?_
      (repeat (first | with_reducible refine Ev.nm (by assumption) (by with_unfolding_all rfl) (by repeat (first | with_reducible assumption | with_reducible exact LM.put_same _ _ _ | with_reducible refine (LM.put_ne (by decide)).trans ?_ | with_unfolding_all rfl)) ?_ | with_reducible refine Ev.call ?_ (by with_unfolding_all rfl) (by with_unfolding_all rfl) (by with_unfolding_all rfl) | with_reducible refine Ev.b_len (by assumption) (by assumption) (by with_unfolding_all rfl) ⟨clb_bi, ?_⟩ | with_reducible refine Ar.cons ?_ (by with_unfolding_all rfl) | with_reducible refine Ar.nil ?_ | with_reducible refine Te.cmp ?_ (by with_unfolding_all rfl)))
      refine Ca.lenS (by rw [wd_len]; lia) ?_
      rw [wd_len]
      (repeat (first | with_reducible refine Ev.nm (by assumption) (by with_unfolding_all rfl) (by repeat (first | with_reducible assumption | with_reducible exact LM.put_same _ _ _ | with_reducible refine (LM.put_ne (by decide)).trans ?_ | with_unfolding_all rfl)) ?_ | with_reducible refine Ev.call ?_ (by with_unfolding_all rfl) (by with_unfolding_all rfl) (by with_unfolding_all rfl) | with_reducible refine Ev.b_len (by assumption) (by assumption) (by with_unfolding_all rfl) ⟨clb_bi, ?_⟩ | with_reducible refine Ar.cons ?_ (by with_unfolding_all rfl) | with_reducible refine Ar.nil ?_))
      refine Ca.lenS (by rw [wd_len]; lia) ?_
      rw [wd_len]
      (repeat (first | with_reducible refine Cp.ltI ?_ | with_reducible refine Tu.bool ?_))
      refine ⟨fun r => ?_, fun r => ?_⟩
      · have r : y1.length < x1.length := by simp at r; lia
        refine Es.cons ?_
        refine Ex.swap (x := Str.ofString "a") (y := Str.ofString "b") hh ?_ (by with_unfolding_all rfl) (swap2 E.s (by with_unfolding_all rfl))
        (repeat (first | with_reducible refine Ev.nm (by assumption) (by with_unfolding_all rfl) (by repeat (first | with_reducible assumption | with_reducible exact LM.put_same _ _ _ | with_reducible refine (LM.put_ne (by decide)).trans ?_ | with_unfolding_all rfl)) ?_ | with_reducible refine Ev.tuple ?_ | with_reducible refine Ar.cons ?_ (by with_unfolding_all rfl) | with_reducible refine Ar.nil ?_))
        refine ⟨by simp, fun a ha => ?_⟩
        refine ⟨a, _, _, rfl, .inl (NM.put_same _ _ _), ?_⟩
        (repeat (first | with_reducible refine Es.nil ?_ | with_reducible refine Sn.nm (by assumption) (by with_unfolding_all rfl) ?_))
        refine kq _ _ ⟨fun b o e => ?_, y1, x1, by rw [hd2, due_comm], hy0, by lia, bx, LM.put_same _ _ _, (LM.put_ne (by decide)).trans (LM.put_same _ _ _), (LM.put_ne (by decide)).trans ((LM.put_ne (by decide)).trans k3)⟩
        rw [NM.put_ne fun q => by rw [q, ha] at e; cases e]; exact e
      · have r : ¬ y1.length < x1.length := by simp at r; lia
        (repeat (first | with_reducible refine Es.nil ?_))
        exact kq _ _ ⟨fun _ _ e => e, x1, y1, hd2, hx0, by lia, bY, k1, k2, k3⟩
    clear k1 k2 k3 hd2 bx bY hx0 hy0 lx ly ret0
    intro mm2 N3 I
    refine hideG fun G kG => ?_
    obtain ⟨sub, x, y, hd, hx0, hxy, bY, k1, k2, k3⟩ := I
    refine kG ?_
    clear kG
    have hx1 : 0 < x.length := List.length_pos_iff.mpr hx0
    (repeat (first | with_reducible refine Es.cons ?_))
    refine Ex.if ?_
    (repeat (first | with_reducible refine Ev.nm (by assumption) (by with_unfolding_all rfl) (by repeat (first | with_reducible assumption | with_reducible exact LM.put_same _ _ _ | with_reducible refine (LM.put_ne (by decide)).trans ?_ | with_unfolding_all rfl)) ?_ | with_reducible refine Ev.bin ?_ | with_reducible refine Ev.call ?_ (by with_unfolding_all rfl) (by with_unfolding_all rfl) (by with_unfolding_all rfl) | with_reducible refine Ev.b_len (by assumption) (by assumption) (by with_unfolding_all rfl) ⟨clb_bi, ?_⟩ | with_reducible refine Ar.cons ?_ (by with_unfolding_all rfl) | with_reducible refine Ar.nil ?_ | with_reducible refine Te.cmp ?_ (by with_unfolding_all rfl)))
    refine Ca.lenS (by rw [wd_len]; lia) ?_
    rw [wd_len]
    (repeat (first | with_reducible refine Ev.nm (by assumption) (by with_unfolding_all rfl) (by repeat (first | with_reducible assumption | with_reducible exact LM.put_same _ _ _ | with_reducible refine (LM.put_ne (by decide)).trans ?_ | with_unfolding_all rfl)) ?_ | with_reducible refine Ev.call ?_ (by with_unfolding_all rfl) (by with_unfolding_all rfl) (by with_unfolding_all rfl) | with_reducible refine Ev.b_len (by assumption) (by assumption) (by with_unfolding_all rfl) ⟨clb_bi, ?_⟩ | with_reducible refine Ar.cons ?_ (by with_unfolding_all rfl) | with_reducible refine Ar.nil ?_))
    refine Ca.lenS (by rw [wd_len]; lia) ?_
    rw [wd_len]
    (repeat (first | with_reducible refine Ev.g_MOVE_COST (by assumption) (by assumption) (by with_unfolding_all rfl) ?_ | with_reducible refine Bi.subI ?_))
    refine Bi.mulI (by lia) (by lia) ?_
    (repeat (first | with_reducible refine Ev.nm (by assumption) (by with_unfolding_all rfl) (by repeat (first | with_reducible assumption | with_reducible exact LM.put_same _ _ _ | with_reducible refine (LM.put_ne (by decide)).trans ?_ | with_unfolding_all rfl)) ?_ | with_reducible refine Cp.gtI ?_ | with_reducible refine Tu.bool ?_))
    refine ⟨fun r => ?_, fun _ => ?_⟩
    · exfalso
      have r : mx < ((y.length : Int) - x.length) * 2 := by simpa using r
      rw [hd] at r; unfold due at r; lia
    (repeat (first | with_reducible refine Ev.nm (by assumption) (by with_unfolding_all rfl) (by repeat (first | with_reducible assumption | with_reducible exact LM.put_same _ _ _ | with_reducible refine (LM.put_ne (by decide)).trans ?_ | with_unfolding_all rfl)) ?_ | with_reducible refine Ev.bin ?_ | with_reducible refine Ev.call ?_ (by with_unfolding_all rfl) (by with_unfolding_all rfl) (by with_unfolding_all rfl) | with_reducible refine Ev.b_len (by assumption) (by assumption) (by with_unfolding_all rfl) ⟨clb_bi, ?_⟩ | with_reducible refine Ev.b_range (by assumption) (by assumption) (by with_unfolding_all rfl) ⟨clb_ty, ?_⟩ | with_reducible refine Ev.b_list (by assumption) (by assumption) (by with_unfolding_all rfl) ⟨clb_ty, ?_⟩ | with_reducible refine Ev.g_MOVE_COST (by assumption) (by assumption) (by with_unfolding_all rfl) ?_ | with_reducible refine Es.cons ?_ | with_reducible refine Es.nil ?_ | with_reducible refine Ar.cons ?_ (by with_unfolding_all rfl) | with_reducible refine Ar.nil ?_ | with_reducible refine Ex.assign ?_ (by with_unfolding_all rfl)))
    refine Ca.lenS (by rw [wd_len]; lia) ?_
    rw [wd_len]
    (repeat (first | with_reducible refine Ev.int ?_ | with_reducible refine Ev.g_MOVE_COST (by assumption) (by assumption) (by with_unfolding_all rfl) ?_ | with_reducible refine Bi.addI ?_ | with_reducible refine Bi.mulI (by decide) (by decide) ?_ | with_reducible refine Ar.cons ?_ (by with_unfolding_all rfl) | with_reducible refine Ar.nil ?_))
    refine Ca.range3 (by decide) (PyProof.noPylong_small (by decide)) fun ra hra => ?_
    (repeat (first | with_reducible refine Ar.nil ?_))
    refine Ca.listRange (n := x.length) hh (.inl (NM.put_same _ _ _)) ?_ ?_ (by lia) fun rw' hrw => ?_
    · exact (rng_ok x.length (by lia)).1
    · exact (rng_ok x.length (by lia)).2
    (repeat (first | with_reducible refine Ev.int ?_ | with_reducible refine Es.cons ?_ | with_reducible refine Sn.nm (by assumption) (by with_unfolding_all rfl) ?_ | with_reducible refine Ex.assign ?_ (by with_unfolding_all rfl)))
    have hr0 : N2 rw' = none := by
      cases e : N2 rw' with
      | none => rfl
      | some o =>
        have e' := sub _ _ e
        have : ra ≠ rw' := fun q => by rw [← q, hra] at e'; cases e'
        rw [NM.put_ne (Ne.symm this), e'] at hrw; cases hrw
    refine Ex.cutR (fun m' N' => (∀ a o, N2 a = some o → N' a = some o) ∧ m' (Str.ofString "result") = some (.int mx)) (fun R kq => ?_) ?_
    rotate_left
    · rintro m' N' ⟨s1, s2⟩
      refine Es.weak (m' := m') (N' := N2) (fun _ _ e => e) s1 ?_
      (repeat (first | with_reducible refine Ev.nm (by assumption) (by with_unfolding_all rfl) (by repeat (first | with_reducible assumption | with_reducible exact LM.put_same _ _ _ | with_reducible refine (LM.put_ne (by decide)).trans ?_ | with_unfolding_all rfl)) ?_ | with_reducible refine Es.cons ?_ | with_reducible refine Ex.ret ?_))
      exact hP
    refine Ex.forRange y.length 0 (LvJ x y pp mx rw' N2) hh E.L E.kind (isLoc_k E (by with_unfolding_all rfl)) ?_ ?_ ?_ ?_
    · (repeat (first | with_reducible refine Ev.nm (by assumption) (by with_unfolding_all rfl) (by repeat (first | with_reducible assumption | with_reducible exact LM.put_same _ _ _ | with_reducible refine (LM.put_ne (by decide)).trans ?_ | with_unfolding_all rfl)) ?_ | with_reducible refine Ev.call ?_ (by with_unfolding_all rfl) (by with_unfolding_all rfl) (by with_unfolding_all rfl) | with_reducible refine Ev.b_len (by assumption) (by assumption) (by with_unfolding_all rfl) ⟨clb_bi, ?_⟩ | with_reducible refine Ev.b_range (by assumption) (by assumption) (by with_unfolding_all rfl) ⟨clb_ty, ?_⟩ | with_reducible refine Ar.cons ?_ (by with_unfolding_all rfl) | with_reducible refine Ar.nil ?_))
      refine Ca.lenS (by rw [wd_len]; lia) ?_
      rw [wd_len]
      (repeat (first | with_reducible refine Ar.nil ?_))
      refine Ca.range1 fun rb hrb => ?_
      refine ⟨rb, _, rfl, NM.put_same _ _ _, by lia, by lia, by lia, by lia, by lia, ?_⟩
      refine ⟨fun a o e => NM.keep hrb (NM.keep hrw (NM.keep hra (sub _ _ e))), ?_, ?_, ?_, ?_, ?_, NM.keep hrb ?_⟩
      · repeat (first | with_reducible assumption | with_reducible exact LM.put_same _ _ _ | with_reducible refine (LM.put_ne (by decide)).trans ?_)
      · repeat (first | with_reducible assumption | with_reducible exact LM.put_same _ _ _ | with_reducible refine (LM.put_ne (by decide)).trans ?_)
      · repeat (first | with_reducible assumption | with_reducible exact LM.put_same _ _ _ | with_reducible refine (LM.put_ne (by decide)).trans ?_)
      · repeat (first | with_reducible assumption | with_reducible exact LM.put_same _ _ _ | with_reducible refine (LM.put_ne (by decide)).trans ?_)
      · rw [if_pos rfl]
        repeat (first | with_reducible assumption | with_reducible exact LM.put_same _ _ _ | with_reducible refine (LM.put_ne (by decide)).trans ?_)
      · rw [NM.put_same, row0]
    · -- a turn
      intro c2 i m5 N5 X hi I
      refine Es.hideL fun R2 kR => ?_
      refine hideG fun G kG => ?_
      obtain ⟨s5, a1, a2, a3, a4, a5, a6⟩ := I
      refine kG ?_
      clear kG
      have E2 := E.ext X
      have F2 := F1.ext X
      have hB2 := F2.B
      have hh2 := F2.h
      have gb : (wd pp y)[i]? = some (lt (pp + i) y[i]) := by rw [wd_get, List.getElem?_eq_getElem hi]; rfl
      have e0 : (0 : Int) + (i : Nat) = i := by lia
      rw [e0]
      refine Es.cons ?_
      refine Ex.assign ?_ (by with_unfolding_all rfl)
      (repeat (first | with_reducible refine Ev.nm (by assumption) (by with_unfolding_all rfl) (by repeat (first | with_reducible assumption | with_reducible exact LM.put_same _ _ _ | with_reducible refine (LM.put_ne (by decide)).trans ?_ | with_unfolding_all rfl)) ?_ | with_reducible refine Ev.sub ?_))
      refine Ev.strItem (by lia) (by lia) (by rw [seqI (by rw [wd_len]; lia)]; exact gb) ?_ (by with_unfolding_all rfl)
      (repeat (first | with_reducible refine Es.cons ?_ | with_reducible refine Sn.nm (by assumption) (by with_unfolding_all rfl) ?_))
      refine Ex.assign2 ?_ (by with_unfolding_all rfl) (by with_unfolding_all rfl)
      (repeat (first | with_reducible refine Ev.nm (by assumption) (by with_unfolding_all rfl) (by repeat (first | with_reducible assumption | with_reducible exact LM.put_same _ _ _ | with_reducible refine (LM.put_ne (by decide)).trans ?_ | with_unfolding_all rfl)) ?_ | with_reducible refine Ev.bin ?_ | with_reducible refine Ev.g_MOVE_COST (by assumption) (by assumption) (by with_unfolding_all rfl) ?_))
      refine Bi.mulI (by lia) (by lia) ?_
      (repeat (first | with_reducible refine Ev.int ?_ | with_reducible refine Es.cons ?_ | with_reducible refine Sn.nm (by assumption) (by with_unfolding_all rfl) ?_ | with_reducible refine Ex.assign ?_ (by with_unfolding_all rfl)))
      -- the inner loop
      refine Ex.cutR (LvQ x y pp mx rw' N2 i) (fun R3 kq3 => ?_) ?_
      rotate_left
      · intro m6 N6 I
        refine hideG fun G kG => ?_
        obtain ⟨s6, c1, c2', c3, c4, c5, ⟨mn, c6, c7⟩, c8⟩ := I
        refine kG ?_
        clear kG
        (repeat (first | with_reducible refine Es.cons ?_))
        refine Ex.if ?_
        (repeat (first | with_reducible refine Ev.nm (by assumption) (by with_unfolding_all rfl) (by repeat (first | with_reducible assumption | with_reducible exact LM.put_same _ _ _ | with_reducible refine (LM.put_ne (by decide)).trans ?_ | with_unfolding_all rfl)) ?_ | with_reducible refine Cp.gtI ?_ | with_reducible refine Tu.bool ?_ | with_reducible refine Te.cmp ?_ (by with_unfolding_all rfl)))
        have hmn : mn ≤ mx := by
          rw [hd]
          exact Int.le_trans (c7 (min (i + 1) x.length - 1) (by lia)) (by exact_mod_cast dst_due hxy hi hx1)
        refine ⟨fun r => ?_, fun _ => ?_⟩
        · exfalso
          have r : mx < mn := by simpa using r
          lia
        (repeat (first | with_reducible refine Es.nil ?_))
        exact kR _ _ ⟨s6, c1, c2', c3, c4, by rw [if_neg (by lia)]; exact c5, c8⟩
      refine Ex.forRange x.length 0 (LvK x y pp mx rw' N2 i (.str (sx [lt (pp + i) y[i]]))) hh2 E2.L E2.kind (isLoc_k E2 (by with_unfolding_all rfl)) ?_ ?_ ?_ ?_
      · (repeat (first | with_reducible refine Ev.nm (by assumption) (by with_unfolding_all rfl) (by repeat (first | with_reducible assumption | with_reducible exact LM.put_same _ _ _ | with_reducible refine (LM.put_ne (by decide)).trans ?_ | with_unfolding_all rfl)) ?_ | with_reducible refine Ev.call ?_ (by with_unfolding_all rfl) (by with_unfolding_all rfl) (by with_unfolding_all rfl) | with_reducible refine Ev.b_len (by assumption) (by assumption) (by with_unfolding_all rfl) ⟨clb_bi, ?_⟩ | with_reducible refine Ev.b_range (by assumption) (by assumption) (by with_unfolding_all rfl) ⟨clb_ty, ?_⟩ | with_reducible refine Ar.cons ?_ (by with_unfolding_all rfl) | with_reducible refine Ar.nil ?_))
        refine Ca.lenS (by rw [wd_len]; lia) ?_
        rw [wd_len]
        (repeat (first | with_reducible refine Ar.nil ?_))
        refine Ca.range1 fun rc hrc => ?_
        refine ⟨rc, _, rfl, NM.put_same _ _ _, by lia, by lia, by lia, by lia, by lia, ?_⟩
        refine ⟨fun a o e => NM.keep hrc (s5 _ _ e), ?_, ?_, ?_, ?_, ?_, ?_, ?_, ⟨_, LM.put_same _ _ _, fun q h => absurd h (Nat.not_lt_zero _)⟩, NM.keep hrc ?_⟩
        · repeat (first | with_reducible assumption | with_reducible exact LM.put_same _ _ _ | with_reducible refine (LM.put_ne (by decide)).trans ?_)
        · repeat (first | with_reducible assumption | with_reducible exact LM.put_same _ _ _ | with_reducible refine (LM.put_ne (by decide)).trans ?_)
        · repeat (first | with_reducible assumption | with_reducible exact LM.put_same _ _ _ | with_reducible refine (LM.put_ne (by decide)).trans ?_)
        · repeat (first | with_reducible assumption | with_reducible exact LM.put_same _ _ _ | with_reducible refine (LM.put_ne (by decide)).trans ?_)
        · repeat (first | with_reducible assumption | with_reducible exact LM.put_same _ _ _ | with_reducible refine (LM.put_ne (by decide)).trans ?_)
        · rw [dst_row0, show (((2 * i : Nat)) : Int) = (i : Int) * 2 by lia]
          repeat (first | with_reducible assumption | with_reducible exact LM.put_same _ _ _ | with_reducible refine (LM.put_ne (by decide)).trans ?_)
        · rw [if_pos rfl, show (((2 * i : Nat)) : Int) = (i : Int) * 2 by lia]
          repeat (first | with_reducible assumption | with_reducible exact LM.put_same _ _ _ | with_reducible refine (LM.put_ne (by decide)).trans ?_)
        · rw [a6]
          simp only [Nat.not_lt_zero, if_false]
      · intro c3 j m6 N6 X3 hj I
        refine Es.hideL fun R4 kR4 => ?_
        refine hideG fun G kG => ?_
        obtain ⟨s6, b1, b2, b3, b4, b5, b6, b7, ⟨mn, b8, b9⟩, b10⟩ := I
        refine kG ?_
        clear kG
        have E3 := E2.ext X3
        have F3 := F2.ext X3
        have hB3 := F3.B
        have hh3 := F3.h
        have ga : (wd pp x)[j]? = some (lt (pp + j) x[j]) := by rw [wd_get, List.getElem?_eq_getElem hj]; rfl
        have e0 : (0 : Int) + (j : Nat) = j := by lia
        rw [e0]
        (repeat (first | with_reducible refine Ev.nm (by assumption) (by with_unfolding_all rfl) (by repeat (first | with_reducible assumption | with_reducible exact LM.put_same _ _ _ | with_reducible refine (LM.put_ne (by decide)).trans ?_ | with_unfolding_all rfl)) ?_ | with_reducible refine Ev.bin ?_ | with_reducible refine Ev.sub ?_ | with_reducible refine Ev.call ?_ (by with_unfolding_all rfl) (by with_unfolding_all rfl) (by with_unfolding_all rfl) | with_reducible refine Ev.g_substitution_cost (by assumption) (by assumption) (by with_unfolding_all rfl) ⟨clb_sub (by assumption), ?_⟩ | with_reducible refine Es.cons ?_ | with_reducible refine Ar.cons ?_ (by with_unfolding_all rfl) | with_reducible refine Ex.assign ?_ (by with_unfolding_all rfl)))
        refine Ev.strItem (by lia) (by lia) (by rw [seqI (by rw [wd_len]; lia)]; exact ga) ?_ (by with_unfolding_all rfl)
        (repeat (first | with_reducible refine Ar.nil ?_))
        refine subst_spec F3 (lt_mem (by lia)) (lt_mem (by lia)) ?_
        rw [subF_lt' (by lia) (by lia)]
        (repeat (first | with_reducible refine Ev.nm (by assumption) (by with_unfolding_all rfl) (by repeat (first | with_reducible assumption | with_reducible exact LM.put_same _ _ _ | with_reducible refine (LM.put_ne (by decide)).trans ?_ | with_unfolding_all rfl)) ?_ | with_reducible refine Ev.sub ?_ | with_reducible refine Bi.addI ?_ | with_reducible refine Es.cons ?_ | with_reducible refine Sn.nm (by assumption) (by with_unfolding_all rfl) ?_ | with_reducible refine Ex.assign ?_ (by with_unfolding_all rfl)))
        have lr : ((List.range x.length).map fun q => V.int (if q < j then dst x y (i + 1) (q + 1) else dst x y i (q + 1) : Nat)).length = x.length := by simp
        refine Sb.list (.inl b10) (by lia) (by lia) (d := .int (dst x y i (j + 1))) ?_ ?_ (by with_unfolding_all rfl)
        · rw [Int.toNat_natCast, List.getElem?_map, List.getElem?_range hj]
          simp
        (repeat (first | with_reducible refine Ev.nm (by assumption) (by with_unfolding_all rfl) (by repeat (first | with_reducible assumption | with_reducible exact LM.put_same _ _ _ | with_reducible refine (LM.put_ne (by decide)).trans ?_ | with_unfolding_all rfl)) ?_ | with_reducible refine Ev.bin ?_ | with_reducible refine Ev.call ?_ (by with_unfolding_all rfl) (by with_unfolding_all rfl) (by with_unfolding_all rfl) | with_reducible refine Ev.b_min (by assumption) (by assumption) (by with_unfolding_all rfl) ⟨clb_bi, ?_⟩ | with_reducible refine Es.cons ?_ | with_reducible refine Ar.cons ?_ (by with_unfolding_all rfl) | with_reducible refine Ar.nil ?_ | with_reducible refine Sn.nm (by assumption) (by with_unfolding_all rfl) ?_ | with_reducible refine Ex.assign ?_ (by with_unfolding_all rfl)))
        refine Ca.minI hh3 ?_
        (repeat (first | with_reducible refine Ev.nm (by assumption) (by with_unfolding_all rfl) (by repeat (first | with_reducible assumption | with_reducible exact LM.put_same _ _ _ | with_reducible refine (LM.put_ne (by decide)).trans ?_ | with_unfolding_all rfl)) ?_ | with_reducible refine Ev.call ?_ (by with_unfolding_all rfl) (by with_unfolding_all rfl) (by with_unfolding_all rfl) | with_reducible refine Ev.b_min (by assumption) (by assumption) (by with_unfolding_all rfl) ⟨clb_bi, ?_⟩ | with_reducible refine Ev.g_MOVE_COST (by assumption) (by assumption) (by with_unfolding_all rfl) ?_ | with_reducible refine Bi.addI ?_ | with_reducible refine Es.cons ?_ | with_reducible refine Ar.cons ?_ (by with_unfolding_all rfl) | with_reducible refine Ar.nil ?_ | with_reducible refine Sn.nm (by assumption) (by with_unfolding_all rfl) ?_ | with_reducible refine Ex.assign ?_ (by with_unfolding_all rfl)))
        refine Ca.minI hh3 ?_
        (repeat (first | with_reducible refine Es.cons ?_ | with_reducible refine Sn.nm (by assumption) (by with_unfolding_all rfl) ?_))
        refine Ex.setItem ?_ (by with_unfolding_all rfl)
        (repeat (first | with_reducible refine Ev.nm (by assumption) (by with_unfolding_all rfl) (by repeat (first | with_reducible assumption | with_reducible exact LM.put_same _ _ _ | with_reducible refine (LM.put_ne (by decide)).trans ?_ | with_unfolding_all rfl)) ?_))
        refine ⟨_, _, _, rfl, rfl, b10, by lia, by rw [lr]; lia, by lia, ?_⟩
        have step := dst_step (x := x) (y := y) (i := i) (j := j) (List.getElem?_eq_getElem hj) (List.getElem?_eq_getElem hi) _ rfl
        rw [min_eq, step]
        rw [Int.toNat_natCast]
        (repeat (first | with_reducible refine Es.cons ?_))
        have nlist : (List.map (fun q => V.int ↑(if q < j then dst x y (i + 1) (q + 1) else dst x y i (q + 1))) (List.range x.length)).set j (V.int ↑(dst x y (i + 1) (j + 1))) = (List.range x.length).map fun q => V.int (if q < j + 1 then dst x y (i + 1) (q + 1) else dst x y i (q + 1) : Nat) := by
          refine List.ext_getElem (by simp) fun q h1 h2 => ?_
          rw [List.getElem_set]
          simp only [List.getElem_map, List.getElem_range]
          by_cases h : j = q
          · subst h; rw [if_pos rfl, if_pos (Nat.lt_succ_self _)]
          · rw [if_neg h]
            by_cases h' : q < j
            · rw [if_pos h', if_pos (by lia)]
            · rw [if_neg h', if_neg (by lia)]
        rw [nlist]
        refine Ex.if ?_
        (repeat (first | with_reducible refine Ev.nm (by assumption) (by with_unfolding_all rfl) (by repeat (first | with_reducible assumption | with_reducible exact LM.put_same _ _ _ | with_reducible refine (LM.put_ne (by decide)).trans ?_ | with_unfolding_all rfl)) ?_ | with_reducible refine Cp.ltI ?_ | with_reducible refine Tu.bool ?_ | with_reducible refine Te.cmp ?_ (by with_unfolding_all rfl)))
        refine ⟨fun r => ?_, fun r => ?_⟩
        · have r : (dst x y (i + 1) (j + 1) : Int) < mn := by simpa using r
          (repeat (first | with_reducible refine Ev.nm (by assumption) (by with_unfolding_all rfl) (by repeat (first | with_reducible assumption | with_reducible exact LM.put_same _ _ _ | with_reducible refine (LM.put_ne (by decide)).trans ?_ | with_unfolding_all rfl)) ?_ | with_reducible refine Es.cons ?_ | with_reducible refine Es.nil ?_ | with_reducible refine Sn.nm (by assumption) (by with_unfolding_all rfl) ?_ | with_reducible refine Ex.assign ?_ (by with_unfolding_all rfl)))
          refine kR4 _ _ ⟨fun a o e => NM.keep' b10 hr0 e (s6 _ _ e), ?_, ?_, ?_, ?_, ?_, ?_, ?_, ⟨_, LM.put_same _ _ _, fun q h => ?_⟩, NM.put_same _ _ _⟩
          · repeat (first | with_reducible assumption | with_reducible exact LM.put_same _ _ _ | with_reducible refine (LM.put_ne (by decide)).trans ?_)
          · repeat (first | with_reducible assumption | with_reducible exact LM.put_same _ _ _ | with_reducible refine (LM.put_ne (by decide)).trans ?_)
          · repeat (first | with_reducible assumption | with_reducible exact LM.put_same _ _ _ | with_reducible refine (LM.put_ne (by decide)).trans ?_)
          · repeat (first | with_reducible assumption | with_reducible exact LM.put_same _ _ _ | with_reducible refine (LM.put_ne (by decide)).trans ?_)
          · repeat (first | with_reducible assumption | with_reducible exact LM.put_same _ _ _ | with_reducible refine (LM.put_ne (by decide)).trans ?_)
          · repeat (first | with_reducible assumption | with_reducible exact LM.put_same _ _ _ | with_reducible refine (LM.put_ne (by decide)).trans ?_)
          · rw [if_neg (Nat.succ_ne_zero j)]
            repeat (first | with_reducible assumption | with_reducible exact LM.put_same _ _ _ | with_reducible refine (LM.put_ne (by decide)).trans ?_)
          · rcases Nat.lt_succ_iff_lt_or_eq.mp h with h | h
            · have := b9 q h; lia
            · rw [h]; exact Int.le_refl _
        · have r : mn ≤ (dst x y (i + 1) (j + 1) : Int) := by simpa using r
          (repeat (first | with_reducible refine Es.nil ?_))
          refine kR4 _ _ ⟨fun a o e => NM.keep' b10 hr0 e (s6 _ _ e), ?_, ?_, ?_, ?_, ?_, ?_, ?_, ⟨mn, ?_, fun q h => ?_⟩, NM.put_same _ _ _⟩
          · repeat (first | with_reducible assumption | with_reducible exact LM.put_same _ _ _ | with_reducible refine (LM.put_ne (by decide)).trans ?_)
          · repeat (first | with_reducible assumption | with_reducible exact LM.put_same _ _ _ | with_reducible refine (LM.put_ne (by decide)).trans ?_)
          · repeat (first | with_reducible assumption | with_reducible exact LM.put_same _ _ _ | with_reducible refine (LM.put_ne (by decide)).trans ?_)
          · repeat (first | with_reducible assumption | with_reducible exact LM.put_same _ _ _ | with_reducible refine (LM.put_ne (by decide)).trans ?_)
          · repeat (first | with_reducible assumption | with_reducible exact LM.put_same _ _ _ | with_reducible refine (LM.put_ne (by decide)).trans ?_)
          · repeat (first | with_reducible assumption | with_reducible exact LM.put_same _ _ _ | with_reducible refine (LM.put_ne (by decide)).trans ?_)
          · rw [if_neg (Nat.succ_ne_zero j)]
            repeat (first | with_reducible assumption | with_reducible exact LM.put_same _ _ _ | with_reducible refine (LM.put_ne (by decide)).trans ?_)
          · repeat (first | with_reducible assumption | with_reducible exact LM.put_same _ _ _ | with_reducible refine (LM.put_ne (by decide)).trans ?_)
          · rcases Nat.lt_succ_iff_lt_or_eq.mp h with h | h
            · exact b9 q h
            · rw [h]; exact r
      · rintro m6 N6 ⟨s6, b1, b2, b3, b4, b5, b6, b7, b8, b10⟩
        refine kq3 _ _ ⟨s6, b1, b2, b3, b4, by rw [if_neg (by lia)] at b7; exact b7, b8, ?_⟩
        rw [b10]
        congr 2
        refine List.map_congr_left fun q hq => ?_
        rw [if_pos (List.mem_range.mp hq)]
      · intro _; with_unfolding_all rfl
    · rintro m5 N5 ⟨s5, a1, a2, a3, a4, a5, a6⟩
      rw [if_neg (by lia), dst_top hxy, ← hd] at a5
      exact kq _ _ ⟨s5, a5⟩
    · intro _; with_unfolding_all rfl
  · rw [sc_levenshtein_distance]; rfl
  · rw [sc_levenshtein_distance]; rfl
  · rw [sc_levenshtein_distance]; rfl
end
end Mine
end PartL2
section PartT9
open PySem PySem.W PyProof.Rows
set_option linter.unusedVariables false
set_option maxRecDepth 100000
namespace Mine
section
variable {prog : Program} {w : World} {c : Cx} {env : Env} {m : LM} {N : NM} {Pn Pb Pc : LM → NM → Prop} {Pr : V → LM → NM → Prop} {P : V → LM → NM → Prop}
theorem Wk.zip {A : Around} {τ : TM} {elts : List Expr} {k : Nat} {tp : Pos} {names : List (Str × Pos)} {z TI TO i1 i2 l1 l2 : Addr} {vs us : List Value} {ds es : List V} (hh : A.handled = none) (D : ZipApart z TI TO i1 i2 l1 l2) (hv : VS τ ds vs) (hu : VS τ es us)
    (hn : names.length = 2) (he : ∀ env', (assignEach elts env').map (·.2) = names.map (fun n => PySem.assign (.Name n.1 n.2) env')) (hstar : ∀ env', (assignEach elts env').findIdx? (·.1) = none) :
    Wk prog w A τ (.Tuple elts k tp) (.ref z) [z, TI, TO, i1, i2, l1, l2] [z, TO, i1, i2] (min ds.length es.length)
      (fun i h => IsZip h z TI TO .none ∧ IsPair h TI (.ref i1) (.ref i2) ∧ (∃ a b, IsPair h TO a b) ∧ h.IsListIter i1 l1 i ∧ h.IsListIter i2 l2 i ∧ h.IsList l1 vs.toArray ∧ h.IsList l2 us.toArray) (names.map (·.1)) (fun i => [ds.getD i .none, es.getD i .none]) := by
  have W := WalksT.zip2 (prog := prog) (w := w) (A := A) hh z TI TO i1 i2 l1 l2 D vs.toArray us.toArray
  have hsz : min vs.toArray.size us.toArray.size = min ds.length es.length := by rw [List.size_toArray, List.size_toArray, hv.length, hu.length]
  rw [hsz] at W
  refine ⟨W.sub, W.frame, fun i h st b hb => ?_, fun i s Q E hi hs hQ => ?_, fun s Q E hs hQ => wpAny_with_toks (n := s.toks) (Nat.le_refl _) (W.done s _ _ hs fun h' tk hk => fun hle => hQ h' tk hle hk), W.self⟩
  · refine hideG fun G9 kG9 => ?_
    obtain ⟨s1, s2, ⟨_, _, s3⟩, ⟨_, s4, _⟩, ⟨_, s5, _⟩, ⟨_, s6, _⟩, ⟨_, s7, _⟩⟩ := st
    refine kG9 ?_
    clear kG9
    simp only [List.mem_cons, List.not_mem_nil, or_false] at hb
    rcases hb with rfl | rfl | rfl | rfl | rfl | rfl | rfl
    · exact ⟨_, s1⟩
    · exact ⟨_, s2⟩
    · exact ⟨_, s3⟩
    · exact ⟨_, s4⟩
    · exact ⟨_, s5⟩
    · exact ⟨_, s6⟩
    · exact ⟨_, s7⟩
  · refine wpAny_with_toks (n := s.toks) (Nat.le_refl _) (W.item i s _ _ hi hs fun T vals h1 tk1 hP hle0 hT hM hk1 => fun hle => hQ (.ref T) h1 tk1 hle fun s' Q' E' es' go => ?_)
    subst es'
    refine W.go elts k tp i T _ _ _ hM fun h2 hs2 hk2 => go h2 (fun b o hb e => hk2 b o hb (hk1 b o hb e)) hs2 fun c' env' τ' m' N' P tk' hA hle' S hS => ?_
    refine hideG fun G9 kG9 => ?_
    obtain ⟨x, y, hx, hy, rfl⟩ := hP
    obtain ⟨oT, eT, cT, nT, dT⟩ := hT
    have hT2 : IsTup h2 T #[x, y] := ⟨oT, hk2 T oT (W.apart i T h1 hM) eT, cT, nT, dT⟩
    obtain ⟨d1, q1, is1⟩ := hv.get' (i := i) (v := x) (by simpa using hx)
    obtain ⟨d2, q2, is2⟩ := hu.get' (i := i) (v := y) (by simpa using hy)
    refine kG9 ?_
    clear kG9
    have e1 : ds.getD i .none = d1 := by rw [List.getD_eq_getElem?_getD, q1]; rfl
    have e2 : es.getD i .none = d2 := by rw [List.getD_eq_getElem?_getD, q2]; rfl
    rw [e1, e2] at hS
    refine assign_Tuple_tuple (s := c'.s h2 tk') hh hT2 ?_ (hstar env') fun h' hx' => ?_
    · have := congrArg List.length (he env')
      rw [List.length_map, List.length_map, hn] at this
      exact this
    · have S2 : St prog w c' τ' tk' h' m' N' := S.grow fun b o eb => hx' b o (Nat.ne_of_lt (Heap.lt_size eb)) eb
      have := (SnL.run' (vs := [x, y]) hn (show VS τ' [d1, d2] [x, y] from ⟨is1.mono hle', is2.mono hle', trivial⟩) hS (he env')).run h' tk' S2
      rw [hA] at this
      exact this
theorem zipApart (n a b : Nat) (ha : a < n) (hb : b < n) : ZipApart (n + 4) (n + 2) (n + 3) n (n + 1) a b := by
  constructor <;> (show @Ne Nat _ _; lia)
/- over a zip of two frozen lists -/
theorem Src.zip {func e1 e2 : Expr} {pos tp : Pos} {elts : List Expr} {k : Nat} {ds es : List V} {K : LM → NM → Prop} (names : List (Str × Pos)) (hh : c.A.handled = Option.none) (hB : Bs w c.B)
    (h : Ev prog w c env func m N (fun f m1 N1 => f = .ty "zip" ∧ Ar prog w c env [e1, e2] m1 N1 (fun as m2 N2 => ∃ a b, as = [.ref a, .ref b] ∧ c.F a = some (.list ds) ∧ c.F b = some (.list es) ∧ K m2 N2)))
    (hev : eval (.Call func [e1, e2] [] pos) env = (do callWith pos (← eval func env) [] (backTo pos (starEach [e1, e2] env)) (backToKw pos (keywordEach [] env))))
    (hst : starEach [e1, e2] env = (false, eval e1 env) :: starEach [e2] env) (hplain : (backTo pos (starEach [e2] env)).any (·.1) = false)
    (hn : names.length = 2) (he : ∀ env', (assignEach elts env').map (·.2) = names.map (fun n => PySem.assign (.Name n.1 n.2) env')) (hstar : ∀ env', (assignEach elts env').findIdx? (·.1) = Option.none) :
    Src prog w c env (.Call func [e1, e2] [] pos) (.Tuple elts k tp) (min ds.length es.length) (names.map (·.1)) (fun i => [ds.getD i .none, es.getD i .none]) m N K := fun τ H tk S => by
  refine Call_ (wgo2 ((h τ).run H tk S) (fun vf τ1 h1 tk1 m1 N1 l1 S1 f hf oo => ?_)) hev
  obtain ⟨ef, p⟩ := oo
  subst ef
  cases hf
  refine Pv.callWith_type1 (wgo2 ((p pos τ1).run h1 tk1 S1) (fun vs τ2 h2 tk2 m2 N2 l2 S2 as has oo => ?_)) hst hplain
  refine hideG fun G9 kG9 => ?_
  obtain ⟨a, b, eas, ha, hb, kk⟩ := oo
  subst eas
  obtain ⟨v1, v2, rfl, rfl, rfl⟩ := has.two
  obtain ⟨oa, Ba, isa⟩ := S2.fz a _ ha
  obtain ⟨ob, Bb, isb⟩ := S2.fz b _ hb
  have ga := S2.keep a oa Ba
  have gb := S2.keep b ob Bb
  obtain ⟨vs, hla, hva, _⟩ := isList_of ga isa
  obtain ⟨us, hlb, hub, _⟩ := isList_of gb isb
  refine kG9 ?_
  clear kG9
  have lta := Heap.lt_size ga
  have ltb := Heap.lt_size gb
  have notN : ∀ x o, c.B x = some o → N2 x = none := fun x o e => by
    cases q : N2 x with
    | none => rfl
    | some o' => have := (S2.obj x o' q).2.1; rw [e] at this; cases this
  have notL : ∀ x o, c.B x = some o → x ≠ c.L := fun x o e q => by rw [q, S2.offL] at e; cases e
  refine call_zip_2 (s := c.s h2 tk2) hla hlb fun h' z1 z2 z3 z4 z5 z6 hk => ?_
  have D : ZipApart (h2.objs.size + 4) (h2.objs.size + 2) (h2.objs.size + 3) h2.objs.size (h2.objs.size + 1) a b := zipApart _ a b lta ltb
  have W0 := Wk.zip (prog := prog) (w := w) (A := c.A) (k := k) (tp := tp) hh D hva hub hn he hstar
  have S3 : St prog w c τ2 tk2 h' m2 N2 := S2.grow hk
  have fr : ∀ x, h2.objs.size ≤ x → N2 x = none ∧ c.B x = none ∧ x ≠ c.L := fun x hx => S2.fresh hx
  have hsi : IsZip h' (h2.objs.size + 4) (h2.objs.size + 2) (h2.objs.size + 3) .none ∧ IsPair h' (h2.objs.size + 2) (.ref h2.objs.size) (.ref (h2.objs.size + 1)) ∧ (∃ a b, IsPair h' (h2.objs.size + 3) a b) ∧ h'.IsListIter h2.objs.size a 0 ∧ h'.IsListIter (h2.objs.size + 1) b 0 ∧ h'.IsList a vs.toArray ∧ h'.IsList b us.toArray :=
    ⟨z1, z2, ⟨_, _, z3⟩, z4, z5, hla.at fun o e => hk _ o e, hlb.at fun o e => hk _ o e⟩
  refine W0.self 0 { (c.s h2 tk2) with heap := h' } _ _ hsi ?_
  refine ⟨τ2, h', tk2, m2, N2, _, _, _, rfl, l1.trans l2, S3, W0, hsi, fun x hx => ?_, fun x hx => ?_, kk⟩
  · simp only [List.mem_cons, List.not_mem_nil, or_false] at hx
    rcases hx with rfl | rfl | rfl | rfl | rfl | rfl | rfl
    · exact ⟨(fr _ (by lia)).1, (fr _ (by lia)).2.2⟩
    · exact ⟨(fr _ (by lia)).1, (fr _ (by lia)).2.2⟩
    · exact ⟨(fr _ (by lia)).1, (fr _ (by lia)).2.2⟩
    · exact ⟨(fr _ (by lia)).1, (fr _ (by lia)).2.2⟩
    · exact ⟨(fr _ (by lia)).1, (fr _ (by lia)).2.2⟩
    · exact ⟨notN _ _ Ba, notL _ _ Ba⟩
    · exact ⟨notN _ _ Bb, notL _ _ Bb⟩
  · simp only [List.mem_cons, List.not_mem_nil, or_false] at hx
    rcases hx with rfl | rfl | rfl | rfl
    · exact (fr _ (by lia)).2.1
    · exact (fr _ (by lia)).2.1
    · exact (fr _ (by lia)).2.1
    · exact (fr _ (by lia)).2.1
end
end Mine
end PartT9
section PartQ1
open PySem PySem.W PyProof.Rows
set_option linter.unusedVariables false
namespace Mine
/- t and x lie on the same side of each of these -/
abbrev same (pre : List Nat) (t x : Nat) : Prop := ∀ s ∈ pre, s < t ↔ s < x
/- the turns on the way of x through what was hung before -/
noncomputable def sdF : List Nat → List Nat → Nat → List Bool
  | _, [], _ => []
  | pre, t :: ts, x => if same pre t x then decide (t < x) :: sdF (pre ++ [t]) ts x else sdF (pre ++ [t]) ts x
theorem sdF_0 (pre : List Nat) (x : Nat) : sdF pre [] x = [] := rfl
theorem sdF_1 (pre : List Nat) (t : Nat) (ts : List Nat) (x : Nat) : sdF pre (t :: ts) x = if same pre t x then decide (t < x) :: sdF (pre ++ [t]) ts x else sdF (pre ++ [t]) ts x := rfl
theorem sdF_append : ∀ (pre ts us : List Nat) (x : Nat), sdF pre (ts ++ us) x = sdF pre ts x ++ sdF (pre ++ ts) us x
  | pre, [], us, x => by simp [sdF_0]
  | pre, t :: ts, us, x => by
    simp only [List.cons_append, sdF_1]
    rw [sdF_append (pre ++ [t]) ts us x]
    split <;> simp
theorem sdF_len : ∀ (pre ts : List Nat) (x : Nat), (sdF pre ts x).length ≤ ts.length
  | pre, [], x => by simp [sdF_0]
  | pre, t :: ts, x => by
    have := sdF_len (pre ++ [t]) ts x
    simp only [sdF_1]
    split <;> simp <;> omega
theorem sdF_same : ∀ (pre ts : List Nat) (t x : Nat), same (pre ++ ts) t x → sdF pre ts t = sdF pre ts x
  | pre, [], t, x, _ => rfl
  | pre, r :: ts, t, x, h => by
    have h' : same (pre ++ [r] ++ ts) t x := by simpa using h
    have ih := sdF_same (pre ++ [r]) ts t x h'
    have hr : (r < t) ↔ (r < x) := h r (by simp)
    have e : same pre r t ↔ same pre r x := ⟨fun q s hs => (q s hs).trans (h s (by simp [hs])), fun q s hs => (q s hs).trans (h s (by simp [hs])).symm⟩
    simp only [sdF_1, ih]
    by_cases q : same pre r t
    · rw [if_pos q, if_pos (e.mp q)]
      congr 1
      exact decide_eq_decide.mpr hr
    · rw [if_neg q, if_neg fun z => q (e.mpr z)]
/- not above t: on the side of t and x alike -/
theorem side_of_not {pre : List Nat} {r t x : Nat} (h : same pre t x) (hr : r ∉ pre) (hn : ¬ same pre r t) : r < t ↔ r < x := by
  simp only [same, Classical.not_forall] at hn
  obtain ⟨s, hs, hn⟩ := hn
  have h1 := h s hs
  have hne : s ≠ r := fun e => hr (e ▸ hs)
  lia
noncomputable def wpath (ts : List Nat) (x : Nat) : List Bool := sdF [] ts x
theorem wpath_succ {ts : List Nat} {c : Nat} (hc : c < ts.length) (x : Nat) : wpath (ts.take (c + 1)) x = wpath (ts.take c) x ++ (if same (ts.take c) (ts.getD c 0) x then [decide (ts.getD c 0 < x)] else []) := by
  unfold wpath
  rw [List.take_add_one, sdF_append]
  congr 1
  rw [List.getElem?_eq_getElem hc, List.getD_eq_getElem?_getD, List.getElem?_eq_getElem hc]
  simp only [Option.toList_some, List.nil_append, sdF_0, sdF_1, Option.getD_some]
theorem wpath_le {ts : List Nat} {c d : Nat} (h : c ≤ d) (x : Nat) : ∃ r, wpath (ts.take d) x = wpath (ts.take c) x ++ r := by
  refine ⟨sdF ([] ++ ts.take c) ((ts.take d).drop c) x, ?_⟩
  unfold wpath
  rw [← sdF_append]
  congr 1
  have : ts.take c = (ts.take d).take c := by rw [List.take_take]; congr 1; lia
  rw [this, List.take_append_drop]
theorem getD_notin {ts : List Nat} (hnd : ts.Nodup) {c : Nat} (hc : c < ts.length) : ts.getD c 0 ∉ ts.take c := fun h => by
  obtain ⟨i, hi, e⟩ := List.getElem_of_mem h
  rw [List.getElem_take, List.getD_eq_getElem?_getD, List.getElem?_eq_getElem hc, Option.getD_some] at e
  rw [List.length_take] at hi
  have := (List.getElem_inj hnd).mp e
  lia
theorem same_snoc {ts : List Nat} {c t x : Nat} (hc : c < ts.length) : same (ts.take (c + 1)) t x ↔ same (ts.take c) t x ∧ (ts.getD c 0 < t ↔ ts.getD c 0 < x) := by
  unfold same
  rw [List.take_add_one, List.getElem?_eq_getElem hc, List.getD_eq_getElem?_getD, List.getElem?_eq_getElem hc]
  simp only [List.mem_append, Option.toList_some, List.mem_singleton, Option.getD_some]
  exact ⟨fun h => ⟨fun s hs => h s (.inl hs), h _ (.inr rfl)⟩, fun h s hs => hs.elim (h.1 s) fun e => e ▸ h.2⟩
theorem wpath_same {ts : List Nat} {c t x : Nat} (h : same (ts.take c) t x) : wpath (ts.take c) t = wpath (ts.take c) x := sdF_same [] _ t x (by simpa using h)
/- one word, one place -/
theorem key_eq {ts : List Nat} (hnd : ts.Nodup) {x a b : Nat} (ha : a ≤ ts.length) (hb : b < ts.length) (h : wpath (ts.take b) (ts.getD b 0) = wpath (ts.take a) x) :
    a ≤ b ∧ same (ts.take b) (ts.getD b 0) x := by
  generalize ht : ts.getD b 0 = t at *
  have base : ∀ c, c ≤ a → c ≤ b → same (ts.take c) t x := by
    intro c
    induction c with
    | zero => intro _ _ s hs; simp at hs
    | succ c ih =>
      intro h1 h2
      have ih := ih (by exact Nat.le_of_lt (by assumption)) (by exact Nat.le_of_lt (by assumption))
      have hc : c < ts.length := by exact Nat.lt_trans (by assumption) (by assumption)
      refine (same_snoc hc).mpr ⟨ih, ?_⟩
      by_cases q : same (ts.take c) (ts.getD c 0) t
      · have q' : same (ts.take c) (ts.getD c 0) x := fun s hs => (q s hs).trans (ih s hs)
        obtain ⟨r1, e1⟩ := wpath_le (ts := ts) h2 t
        obtain ⟨r2, e2⟩ := wpath_le (ts := ts) h1 x
        rw [wpath_succ hc, if_pos q] at e1
        rw [wpath_succ hc, if_pos q'] at e2
        rw [h, e2, wpath_same ih] at e1
        simp only [List.append_assoc, List.append_cancel_left_eq, List.singleton_append, List.cons.injEq] at e1
        exact decide_eq_decide.mp e1.1.symm
      · exact side_of_not ih (getD_notin hnd hc) q
  rcases Nat.lt_or_ge b a with hlt | hge
  · exfalso
    have s := base b (by exact Nat.le_of_lt (by assumption)) (Nat.le_refl _)
    obtain ⟨r, e⟩ := wpath_le (ts := ts) hlt x
    rw [wpath_succ hb, ht, if_pos s] at e
    rw [e, wpath_same s] at h
    have := congrArg List.length h
    simp at this
  · refine ⟨hge, ?_⟩
    have sa := base a (Nat.le_refl _) hge
    have up : ∀ d, a + d ≤ b → same (ts.take (a + d)) t x := by
      intro d
      induction d with
      | zero => intro _; exact sa
      | succ d ih =>
        intro hd
        have ih := ih (by exact Nat.le_of_lt (by assumption))
        have hc : a + d < ts.length := by exact Nat.lt_trans (by assumption) (by assumption)
        refine (same_snoc hc).mpr ⟨ih, side_of_not ih (getD_notin hnd hc) fun q => ?_⟩
        obtain ⟨r, e⟩ := wpath_le (ts := ts) hd t
        rw [show a + (d + 1) = a + d + 1 by exact (Nat.add_assoc _ _ _).symm, wpath_succ hc, if_pos q] at e
        obtain ⟨r', e'⟩ := wpath_le (ts := ts) (c := a) (d := a + d) (by exact Nat.le_add_right _ _) t
        rw [e', wpath_same sa, h] at e
        have := congrArg List.length e
        simp at this
    have := up (b - a) (by lia)
    rw [show a + (b - a) = b by lia] at this
    exact this
/- the first above x from a on -/
theorem first_above (ts : List Nat) (x : Nat) : ∀ (k a : Nat), ts.length - a = k → a ≤ ts.length →
    (∃ b, a ≤ b ∧ b < ts.length ∧ same (ts.take b) (ts.getD b 0) x ∧ wpath (ts.take b) x = wpath (ts.take a) x) ∨ wpath ts x = wpath (ts.take a) x := by
  intro k
  induction k with
  | zero =>
    intro a hk ha
    right
    rw [List.take_of_length_le (by lia)]
  | succ k ih =>
    intro a hk ha
    have hc : a < ts.length := by lia
    by_cases q : same (ts.take a) (ts.getD a 0) x
    · exact .inl ⟨a, Nat.le_refl _, hc, q, rfl⟩
    · have e : wpath (ts.take (a + 1)) x = wpath (ts.take a) x := by rw [wpath_succ hc, if_neg q, List.append_nil]
      rcases ih (a + 1) (by omega) hc with ⟨b, h1, h2, h3, h4⟩ | h
      · exact .inl ⟨b, by exact Nat.le_of_lt (by assumption), h2, h3, h4.trans e⟩
      · exact .inr (h.trans e)
/- the tree: words and hues, as they were hung -/
noncomputable def tr (ts : List Nat) : List (Str × V) := (List.range ts.length).map fun a => (sx (wd 0 (wpath (ts.take a) (ts.getD a 0))), V.flt (fl (ts.getD a 0)))
theorem tr_len (ts : List Nat) : (tr ts).length = ts.length := by simp [tr]
theorem tr_snoc {ts : List Nat} {x : Nat} : tr (ts ++ [x]) = tr ts ++ [(sx (wd 0 (wpath ts x)), V.flt (fl x))] := by
  unfold tr
  rw [List.length_append, List.length_singleton, List.range_succ, List.map_append]
  congr 1
  · refine List.map_congr_left fun a ha => ?_
    have ha := List.mem_range.mp ha
    rw [List.take_append_of_le_length (by exact Nat.le_of_lt (by assumption))]
    have e : (ts ++ [x]).getD a 0 = ts.getD a 0 := by
      rw [List.getD_eq_getElem?_getD, List.getD_eq_getElem?_getD, List.getElem?_append_left ha]
    rw [e]
  · simp
theorem wpath_len6 {ts : List Nat} (h : ts.length ≤ 6) (a x : Nat) : (wpath (ts.take a) x).length ≤ 6 := by
  have := sdF_len [] (ts.take a) x
  rw [List.length_take] at this
  exact Nat.le_trans this (by lia)
theorem key_inj {u v : List Bool} (hu : u.length ≤ 6) (hv : v.length ≤ 6) (h : sx (wd 0 u) = sx (wd 0 v)) : u = v := wd_inj (by lia) (by lia) (sx_inj.mp h)
theorem find_unique {α : Type} {p : α → Bool} {y : α} : ∀ {l : List α}, y ∈ l → p y = true → (∀ z ∈ l, p z = true → z = y) → l.find? p = some y
  | [], h, _, _ => by simp at h
  | a :: l, h, hy, hu => by
    rw [List.find?_cons]
    cases q : p a with
    | true => rw [hu a (List.mem_cons_self) q]
    | false =>
      rcases List.mem_cons.mp h with e | h
      · rw [← e, hy] at q; cases q
      · exact find_unique h hy fun z hz => hu z (List.mem_cons_of_mem _ hz)
theorem walk_step {ts : List Nat} {x a : Nat} (hnd : ts.Nodup) (h6 : ts.length ≤ 6) (hx : x ∉ ts) (ha : a ≤ ts.length) :
    (∃ b, a ≤ b ∧ b < ts.length ∧ vAt (tr ts) (sx (wd 0 (wpath (ts.take a) x))) = some (.flt (fl (ts.getD b 0))) ∧ (tr ts).any (fun e => e.1 = sx (wd 0 (wpath (ts.take a) x))) = true ∧
      wpath (ts.take (b + 1)) x = wpath (ts.take a) x ++ [decide (ts.getD b 0 < x)]) ∨
    ((tr ts).any (fun e => e.1 = sx (wd 0 (wpath (ts.take a) x))) = false ∧ (∀ e ∈ tr ts, e.1 ≠ sx (wd 0 (wpath (ts.take a) x))) ∧ wpath (ts.take a) x = wpath ts x) := by
  have mem : ∀ e ∈ tr ts, ∃ b, b < ts.length ∧ e = (sx (wd 0 (wpath (ts.take b) (ts.getD b 0))), V.flt (fl (ts.getD b 0))) := fun e he => by
    obtain ⟨b, hb, rfl⟩ := List.mem_map.mp he
    exact ⟨b, List.mem_range.mp hb, rfl⟩
  rcases first_above ts x _ a rfl ha with ⟨b, h1, h2, h3, h4⟩ | h
  · left
    have ek : wpath (ts.take b) (ts.getD b 0) = wpath (ts.take a) x := (wpath_same h3).trans h4
    have inn : (sx (wd 0 (wpath (ts.take b) (ts.getD b 0))), V.flt (fl (ts.getD b 0))) ∈ tr ts := List.mem_map.mpr ⟨b, List.mem_range.mpr h2, rfl⟩
    refine ⟨b, h1, h2, ?_, ?_, ?_⟩
    · unfold vAt
      rw [find_unique (y := (sx (wd 0 (wpath (ts.take b) (ts.getD b 0))), V.flt (fl (ts.getD b 0)))) inn (by rw [ek]; exact decide_eq_true rfl) fun z hz q => ?_]
      · rfl
      · obtain ⟨b', hb', rfl⟩ := mem z hz
        have q : sx (wd 0 (wpath (ts.take b') (ts.getD b' 0))) = sx (wd 0 (wpath (ts.take a) x)) := by simpa using q
        have q := key_inj (wpath_len6 h6 _ _) (wpath_len6 h6 _ _) q
        have c1 := key_eq hnd (x := ts.getD b 0) (a := b) (by exact Nat.le_of_lt (by assumption)) hb' (q.trans ek.symm)
        have c2 := key_eq hnd (x := ts.getD b' 0) (a := b') (by exact Nat.le_of_lt (by assumption)) h2 (ek.trans q.symm)
        have : b' = b := by lia
        rw [this]
    · rw [List.any_eq_true]
      exact ⟨_, inn, by rw [ek]; exact decide_eq_true rfl⟩
    · rw [wpath_succ h2, if_pos h3, h4]
  · right
    have no : ∀ e ∈ tr ts, e.1 ≠ sx (wd 0 (wpath (ts.take a) x)) := fun e he q => by
      obtain ⟨b, hb, rfl⟩ := mem e he
      have q := key_inj (wpath_len6 h6 _ _) (wpath_len6 h6 _ _) q
      obtain ⟨c1, c2⟩ := key_eq hnd ha hb q
      obtain ⟨r, e1⟩ := wpath_le (ts := ts) (c := b + 1) (d := ts.length) hb x
      rw [List.take_length, h, wpath_succ hb, if_pos c2, ← wpath_same c2, q] at e1
      have := congrArg List.length e1
      simp at this
    refine ⟨?_, no, h.symm⟩
    rw [List.any_eq_false]
    intro e he
    simpa using no e he
end Mine
end PartQ1
section PartQ2
open PySem PySem.W PyProof.Rows
set_option linter.unusedVariables false
namespace Mine
/- the least from i on, of d + 1 places -/
noncomputable def am (K : Nat → Nat) (i : Nat) : Nat → Nat
  | 0 => i
  | d + 1 => if K (i + d + 1) < K (am K i d) then i + d + 1 else am K i d
theorem am_1 (K : Nat → Nat) (i d : Nat) : am K i (d + 1) = if K (i + d + 1) < K (am K i d) then i + d + 1 else am K i d := rfl
theorem am_range (K : Nat → Nat) (i : Nat) : ∀ d, i ≤ am K i d ∧ am K i d ≤ i + d
  | 0 => ⟨Nat.le_refl _, Nat.le_refl _⟩
  | d + 1 => by
    have := am_range K i d
    rw [am_1]
    split <;> lia
theorem am_least (K : Nat → Nat) (i : Nat) : ∀ d s, i ≤ s → s ≤ i + d → K (am K i d) ≤ K s
  | 0, s, h1, h2 => by rw [show s = i by lia]; exact Nat.le_refl _
  | d + 1, s, h1, h2 => by
    have ih := am_least K i d
    rw [am_1]
    rcases Nat.lt_or_ge (i + d) s with h | h
    · rw [show s = i + d + 1 by lia]
      split <;> lia
    · have := ih s h1 h
      split <;> lia
/- the table: the least on the stretch -/
noncomputable def low (K : Nat → Nat) (t i : Nat) : Nat := am K (min t i) (max t i - min t i)
theorem low_comm (K : Nat → Nat) (t i : Nat) : low K t i = low K i t := by
  unfold low; rw [Nat.min_comm, Nat.max_comm]
theorem low_eq {K : Nat → Nat} {n t i : Nat} (inj : ∀ a b, a < n → b < n → K a = K b → a = b) (ht : t < n) (hi : i < n) : low K t i = t ↔ ∀ s, min t i ≤ s → s ≤ max t i → K t ≤ K s := by
  unfold low
  have r := am_range K (min t i) (max t i - min t i)
  constructor
  · intro h s h1 h2
    have := am_least K (min t i) (max t i - min t i) s h1 (by lia)
    rw [h] at this; exact this
  · intro h
    have h1 := h _ r.1 (by lia)
    have h2 := am_least K (min t i) (max t i - min t i) t (by lia) (by lia)
    exact inj _ _ (by lia) ht (Nat.le_antisymm h2 h1)
/- the sides of a spot -/
noncomputable def sidesF (K : Nat → Nat) (order : List Nat) (i : Nat) : List Bool := (order.filter fun t => decide (t ≠ i) && decide (low K t i = t)).map fun t => decide (t < i)
theorem sides_eq {K : Nat → Nat} {n : Nat} {order pre post : List Nat} {i : Nat} (inj : ∀ a b, a < n → b < n → K a = K b → a = b) (hp : order.Perm (List.range n)) (hs : order.Pairwise fun a b => K a < K b) (he : order = pre ++ i :: post) :
    sidesF K order i = sdF [] pre i := by
  have mem : ∀ x, x ∈ order ↔ x < n := fun x => hp.mem_iff.trans List.mem_range
  have hi : i < n := (mem i).mp (by rw [he]; simp)
  have pw := hs
  rw [he, List.pairwise_append, List.pairwise_cons] at pw
  obtain ⟨p1, ⟨p2, p3⟩, p4⟩ := pw
  have nd : order.Nodup := hp.nodup_iff.mpr List.nodup_range
  -- what stands behind i is not above it
  have hpost : post.filter (fun t => decide (t ≠ i) && decide (low K t i = t)) = [] := by
    rw [List.filter_eq_nil_iff]
    intro t ht q
    simp only [Bool.and_eq_true, decide_eq_true_eq] at q
    have := (low_eq inj ((mem t).mp (by rw [he]; simp [ht])) hi).mp q.2 i (by lia) (by lia)
    have := p2 t ht
    lia
  have hpre : ∀ p q : List Nat, pre = p ++ q → (q.filter fun t => decide (t ≠ i) && decide (low K t i = t)).map (fun t => decide (t < i)) = sdF p q i := by
    intro p q
    induction q generalizing p with
    | nil => intro _; rfl
    | cons t q ih =>
      intro e
      have ih := ih (p ++ [t]) (by rw [e]; simp)
      have ht : t < n := (mem t).mp (by rw [he, e]; simp)
      have hKti : K t < K i := p4 t (by rw [e]; simp) i (by simp)
      have hne : t ≠ i := fun h => by rw [h] at hKti; lia
      have cond : (low K t i = t) ↔ same p t i := by
        rw [low_eq inj ht hi]
        have before : ∀ s, s < n → (s ∈ p ↔ K s < K t) := fun s hs' => by
          constructor
          · intro h
            rw [e, List.pairwise_append] at p1
            exact p1.2.2 s h t (by simp)
          · intro h
            have h' := (mem s).mpr hs'
            rw [he, e] at h'
            simp only [List.mem_append, List.mem_cons] at h'
            rw [e, List.pairwise_append, List.pairwise_cons] at p1
            rcases h' with (h' | h' | h') | h' | h'
            · exact h'
            · rw [h'] at h; (exfalso; lia)
            · have := p1.2.1.1 s h'; (exfalso; lia)
            · rw [h'] at h; (exfalso; lia)
            · have := p4 t (by rw [e]; simp) s (by simp [h']); (exfalso; lia)
        constructor
        · intro h s hs'
          have hsn : s < n := (mem s).mp (by rw [he, e]; simp [hs'])
          have hlt := (before s hsn).mp hs'
          have a1 : ¬ (min t i ≤ s ∧ s ≤ max t i) := fun z => by have := h s z.1 z.2; lia
          lia
        · intro h s h1 h2
          rcases Nat.lt_or_ge (K s) (K t) with hlt | hge
          · exfalso
            have hsn : s < n := by lia
            have := h s ((before s hsn).mpr hlt)
            have n1 : s ≠ t := fun z => by rw [z] at hlt; lia
            have n2 : s ≠ i := fun z => by rw [z] at hlt; lia
            lia
          · exact hge
      simp only [sdF_1, List.filter_cons]
      by_cases c : same p t i
      · rw [if_pos c, if_pos (by simp [hne, cond.mpr c])]
        rw [List.map_cons, ih]
      · rw [if_neg c, if_neg (by simp [hne]; exact fun z => c (cond.mp z))]
        exact ih
  unfold sidesF
  rw [he, List.filter_append, List.filter_cons, if_neg (by simp), hpost, List.append_nil]
  exact hpre [] pre rfl
theorem same_map {P : Nat → Nat} {n : Nat} (mono : ∀ a b, a < n → b < n → (P a < P b ↔ a < b)) {pre : List Nat} {t i : Nat} (hp : ∀ s ∈ pre, s < n) (ht : t < n) (hi : i < n) : same (pre.map P) (P t) (P i) ↔ same pre t i := by
  unfold same
  constructor
  · intro h s hs
    have := h (P s) (List.mem_map.mpr ⟨s, hs, rfl⟩)
    rw [mono _ _ (hp s hs) ht, mono _ _ (hp s hs) hi] at this
    exact this
  · intro h s hs
    obtain ⟨r, hr, rfl⟩ := List.mem_map.mp hs
    rw [mono _ _ (hp r hr) ht, mono _ _ (hp r hr) hi]
    exact h r hr
theorem sdF_map {P : Nat → Nat} {n i : Nat} (mono : ∀ a b, a < n → b < n → (P a < P b ↔ a < b)) (hi : i < n) : ∀ (pre ts : List Nat), (∀ s ∈ pre, s < n) → (∀ s ∈ ts, s < n) → sdF (pre.map P) (ts.map P) (P i) = sdF pre ts i
  | pre, [], _, _ => rfl
  | pre, t :: ts, h1, h2 => by
    have ht := h2 t (List.mem_cons_self)
    have ih := sdF_map mono hi (pre ++ [t]) ts (fun s hs => (List.mem_append.mp hs).elim (h1 s) fun q => by rw [List.mem_singleton.mp q]; exact ht) fun s hs => h2 s (List.mem_cons_of_mem _ hs)
    simp only [List.map_cons, sdF_1]
    rw [List.map_append] at ih
    rw [show (P t :: [] : List Nat) = [t].map P from rfl, ih]
    by_cases c : same pre t i
    · rw [if_pos c, if_pos ((same_map mono h1 ht hi).mpr c)]
      congr 1
      exact decide_eq_decide.mpr (mono _ _ ht hi)
    · rw [if_neg c, if_neg fun z => c ((same_map mono h1 ht hi).mp z)]
/- lists in order with the same items are one -/
theorem sorted_eq : ∀ {a b : List Nat}, a.Perm b → a.Pairwise (· < ·) → b.Pairwise (· < ·) → a = b
  | [], _, p, _, _ => p.nil_eq
  | x :: r, b, p, ha, hb => by
    cases b with
    | nil => exact absurd p.length_eq (by simp)
    | cons y t =>
      have hx : x ∈ y :: t := p.mem_iff.mp (.head _)
      have hy : y ∈ x :: r := p.mem_iff.mpr (.head _)
      have e : x = y := by
        rcases List.mem_cons.mp hx with h | h
        · exact h
        · rcases List.mem_cons.mp hy with h' | h'
          · exact h'.symm
          · have a1 := (List.pairwise_cons.mp ha).1 y h'
            have a2 := (List.pairwise_cons.mp hb).1 x h
            (exfalso; lia)
      subst e
      rw [sorted_eq (List.Perm.cons_inv p) (List.pairwise_cons.mp ha).2 (List.pairwise_cons.mp hb).2]
/- the whole plain law: the word of a spot is its sides -/
theorem words_are_sides {n : Nat} {K P : Nat → Nat} {order ts sg : List Nat} (injK : ∀ a b, a < n → b < n → K a = K b → a = b) (mono : ∀ a b, a < n → b < n → (P a < P b ↔ a < b))
    (hp : order.Perm (List.range n)) (hs : order.Pairwise fun a b => K a < K b) (hts : ts = order.map P) (hsg : ∀ i, i < n → ts.getD (sg.getD i 0) 0 = P i) (hsn : ∀ i, i < n → sg.getD i 0 < n) {i : Nat} (hi : i < n) :
    wpath (ts.take (sg.getD i 0)) (ts.getD (sg.getD i 0) 0) = sidesF K order i := by
  have ln : order.length = n := by rw [hp.length_eq, List.length_range]
  have mem : ∀ x, x ∈ order ↔ x < n := fun x => hp.mem_iff.trans List.mem_range
  generalize ha : sg.getD i 0 = a at *
  have han : a < n := ha ▸ hsn i hi
  have hPi : ts.getD a 0 = P i := ha ▸ hsg i hi
  have hoa : order.getD a 0 = i := by
    rw [hts, List.getD_eq_getElem?_getD, List.getElem?_map, List.getElem?_eq_getElem (by lia)] at hPi
    simp only [Option.map_some, Option.getD_some] at hPi
    have hm : order[a]'(by lia) < n := (mem _).mp (List.getElem_mem _)
    have e1 := mono _ _ hm hi
    have e2 := mono _ _ hi hm
    rw [List.getD_eq_getElem?_getD, List.getElem?_eq_getElem (by lia), Option.getD_some]
    lia
  have split : order = order.take a ++ i :: order.drop (a + 1) := by
    have := List.take_append_drop a order
    rw [List.drop_eq_getElem_cons (by lia)] at this
    rw [List.getD_eq_getElem?_getD, List.getElem?_eq_getElem (by lia), Option.getD_some] at hoa
    rw [hoa] at this
    exact this.symm
  rw [sides_eq injK hp hs split, hPi, hts, ← List.map_take]
  exact sdF_map mono hi [] (order.take a) (fun s hs => by simp at hs) fun s hs => (mem s).mp (List.mem_of_mem_take hs)
end Mine
end PartQ2
section PartT10
open PySem PySem.W PyProof.Rows
set_option linter.unusedVariables false
set_option maxRecDepth 100000
namespace Mine
section
variable {prog : Program} {w : World} {c : Cx} {env : Env} {m : LM} {N : NM} {Pn Pb Pc : LM → NM → Prop} {Pr : V → LM → NM → Prop} {P : V → LM → NM → Prop}
theorem swaps_cell {elt : Expr} {gens : List Comprehension} {scope : Scope} {pos p : Pos} {x : Str} {l : Nat} (h : env.kindOf x = some .cell) : swapsWith (.ListComp elt gens scope pos) (some (.Name x p)) l env = pure false := by
  have h1 : (NameKind.cell == NameKind.local) = false := by decide
  unfold swapsWith
  simp [h, h1]
theorem pos_ListComp (elt : Expr) (gens : List Comprehension) (scope : Scope) (p : Pos) : (Expr.ListComp elt gens scope p).pos = p := rfl
theorem swaps_local {elt : Expr} {gens : List Comprehension} {scope : Scope} {pos p : Pos} {x : Str} {l : Nat} (hb : env.blockKind = .function) (h : env.kindOf x = some .local) (hl : p.line = pos.line) (hn : (scope.names.any fun (n, k) => n == x && (k == .local || k == .cell)) = false) :
    swapsWith (.ListComp elt gens scope pos) (some (.Name x p)) l env = pure true := by
  unfold swapsWith
  simp only [h, hb, hl, pos_ListComp]
  rw [hn]
  have h1 : (ScopeKind.function == ScopeKind.function) = true := by decide
  have h2 : (some NameKind.local == some NameKind.local) = true := by decide
  have h3 : (pos.line == pos.line) = true := by simp
  rw [h1, h2, h3]
  rfl
theorem clos0 {scope : Scope} (h : ∀ x ∈ scope.names, x.2 ≠ .free) : closureFor scope env = Pure.pure [] := closureFor_none h
theorem cellOf_eq {x : Str} {a : Addr} (h : env.cells.lookup x = some a) : cellOf env x = Pure.pure a := by unfold cellOf; rw [h]
end
theorem getD_lt {α : Type} {l : List α} {j : Nat} (h : j < l.length) (r d : α) : (l ++ [r]).getD j d = l.getD j d := by
  rw [List.getD_eq_getElem?_getD, List.getD_eq_getElem?_getD, List.getElem?_append_left h]
theorem getD_end {α : Type} (l : List α) (r d : α) {j : Nat} (h : l.length = j) : (l ++ [r]).getD j d = r := by
  subst h
  rw [List.getD_eq_getElem?_getD, List.getElem?_concat_length]; rfl
theorem tr_get {ts : List Nat} (hnd : ts.Nodup) (h6 : ts.length ≤ 7) {i : Nat} (hi : i < ts.length) : vAt (tr ts) (sx (wd 0 (wpath (ts.take i) (ts.getD i 0)))) = some (.flt (fl (ts.getD i 0))) := by
  have len : ∀ b, b < ts.length → (wpath (ts.take b) (ts.getD b 0)).length ≤ 6 := fun b hb => by
    have := sdF_len [] (ts.take b) (ts.getD b 0)
    rw [List.length_take] at this
    exact Nat.le_trans this (by lia)
  have inn : (sx (wd 0 (wpath (ts.take i) (ts.getD i 0))), V.flt (fl (ts.getD i 0))) ∈ tr ts := List.mem_map.mpr ⟨i, List.mem_range.mpr hi, rfl⟩
  unfold vAt
  rw [find_unique (y := (sx (wd 0 (wpath (ts.take i) (ts.getD i 0))), V.flt (fl (ts.getD i 0)))) inn (decide_eq_true rfl) fun z hz q => ?_]
  · rfl
  · obtain ⟨b, hb, rfl⟩ := List.mem_map.mp hz
    have hb := List.mem_range.mp hb
    have q : sx (wd 0 (wpath (ts.take b) (ts.getD b 0))) = sx (wd 0 (wpath (ts.take i) (ts.getD i 0))) := by simpa using q
    have q := key_inj (len b hb) (len i hi) q
    have c1 := key_eq hnd (x := ts.getD i 0) (a := i) (by exact Nat.le_of_lt (by assumption)) hb q
    have c2 := key_eq hnd (x := ts.getD b 0) (a := b) (by exact Nat.le_of_lt (by assumption)) hi q.symm
    have : b = i := by lia
    rw [this]
theorem tr_key {ts : List Nat} {i : Nat} (hi : i < ts.length) : ((tr ts).getD i (⟨#[]⟩, .none)).1 = sx (wd 0 (wpath (ts.take i) (ts.getD i 0))) := by
  unfold tr
  rw [List.getD_eq_getElem?_getD, List.getElem?_map, List.getElem?_range hi]
  rfl
end Mine
end PartT10
section PartT11
open PySem PySem.W PyProof.Rows
set_option linter.unusedVariables false
set_option maxRecDepth 100000
namespace Mine
section
variable {prog : Program} {w : World} {c : Cx} {env : Env} {m : LM} {N : NM} {Pn Pb Pc : LM → NM → Prop} {Pr : V → LM → NM → Prop} {P : V → LM → NM → Prop}
/- a source whose items are known when it has been reckoned -/
inductive SrcXO (prog : Program) (w : World) (c : Cx) (τ : TM) (tgt : Expr) (it : Value) (K : Nat → List Str → (Nat → List V) → LM → NM → Prop) (s2 : Shared) : Prop where
  | mk (n : Nat) (names : List Str) (dss : Nat → List V) (τ2 : TM) (h2 : Heap) (tk2 : Nat) (m2 : LM) (N2 : NM) (fp wr : List Addr) (Si : Nat → Heap → Prop) (es : s2 = c.s h2 tk2) (l2 : τ.le τ2) (S2 : St prog w c τ2 tk2 h2 m2 N2)
    (W : Wk prog w c.A τ2 tgt it fp wr n Si names dss) (hsi : Si 0 h2) (hfp : ∀ a ∈ fp, N2 a = none ∧ a ≠ c.L) (hwr : ∀ a ∈ wr, c.B a = none) (k : K n names dss m2 N2)
noncomputable def SrcX (prog : Program) (w : World) (c : Cx) (env : Env) (iter tgt : Expr) (m : LM) (N : NM) (K : Nat → List Str → (Nat → List V) → LM → NM → Prop) : Prop :=
  ∀ τ h tk, St prog w c τ tk h m N → wpAny (model prog w) c.A (eval iter env) (fun x s1 => wpAny (model prog w) c.A (pyIter x) (fun it s2 => SrcXO prog w c τ tgt it K s2) (fun _ _ => False) s1) (fun _ _ => False) (c.s h tk)
theorem Ev.compX {sc : Scope} {elt tgt iter : Expr} {ifs : List Expr} {scope : Scope} {pos : Pos} (cl : List (Str × Addr)) (own : Option Str)
    (E : FE env c sc) (hclos : closureFor scope env = Pure.pure cl) (hkind : scope.kind = .function) (hnames : ∀ x ∈ scope.names, x.2 = .local → scope.names.lookup x.1 = some .local)
    (hcs : ∀ n, cellsFrom n scope.names cl = match own with | Option.none => cl | some x => (x, n) :: cl) (hph : ∀ h, pushCells h scope.names = ownH own h) (hs : ∀ x, foldedSetIterable iter env x = Pure.pure x)
    (h : SrcX prog w c env iter tgt m N (fun n names dss m1 N1 => n ≤ 1000 ∧ ∃ J : Addr → Nat → List V → NM → Prop, (∀ C, N1 C = Option.none → N1 (C + 1) = Option.none → J C 0 [] (ownN own C N1)) ∧ (∀ C D acc N', J C n acc N' → N' D = Option.none → acc.length ≤ n → P (.ref D) m1 (N'.put D (.list acc))) ∧
      ∀ C c' env' i acc N', CompX c c' → FE env' c' (relS scope sc) → env'.cells = ownC own C cl → i < n → J C i acc N' →
        SnL prog w c' env' names (dss i) (fun _ => Option.none) N' (fun m2 N2 => Tes prog w c' env' ifs m2 N2 (fun b m3 N3 => (b = true → Ev prog w c' env' elt m3 N3 (fun d _ N4 => J C (i + 1) (acc ++ [d]) N4)) ∧ (b = false → J C (i + 1) acc N3))))) :
    Ev prog w c env (.ListComp elt [⟨tgt, iter, ifs, 0⟩] scope pos) m N P := fun τ => ⟨fun H tk S => by
  rw [eval_ListComp]
  refine wpAny_comprehension_free (use := Option.none) (g := ⟨tgt, iter, ifs, 0⟩) (gs := []) rfl hs hclos hkind hnames (wpAny_mono (h τ H tk S) (fun xv s₁ h₁ => wpAny_mono h₁ (fun it s₂ h₂ => ?_) fun _ _ e => e) fun _ _ e => e)
  refine hideG fun G9 kG9 => ?_
  obtain ⟨n, names, dss, τ2, h2, tk2, m2, N2, fp, wr, Si, rfl, l2, S2, W, hsi, hfp, hwr, hz, J, hj, hP, turn⟩ := h₂
  refine kG9 ?_
  clear kG9
  refine comp_block (RR := fun acc C => compPost (model prog w) c.A _ Option.none _ acc C) E hkind hcs hph W hz S2 hfp hwr hsi J hj turn ?_
  intro D C f τ' h' tk' N' acc l S' nD hmC hCL hCB hCN hacc hJ
  obtain ⟨mC, hnC⟩ := hmC
  exact ⟨mC, hnC, fun h'' hs'' => Out.le (l2.trans l) (Out.val (d := .ref D) (after_block S' hs'' hCL hCB hCN) rfl (hP C D acc N' hJ nD hacc))⟩⟩
theorem SrcX.listN {iter : Expr} {x : Str} {px : Pos} {K : Nat → List Str → (Nat → List V) → LM → NM → Prop} (hh : c.A.handled = Option.none) (h : Ev prog w c env iter m N (fun d m1 N1 => ∃ a ds, d = .ref a ∧ N1 a = some (.list ds) ∧ K ds.length [x] (fun i => [ds.getD i .none]) m1 (N1.del a))) :
    SrcX prog w c env iter (.Name x px) m N K := fun τ H tk S => by
  refine wgo2 ((h τ).run H tk S) (fun v τ1 h1 tk1 m1 N1 l1 S1 d hd oo => ?_)
  refine hideG fun G9 kG9 => ?_
  obtain ⟨a, ds, ed, ha, k⟩ := oo
  refine kG9 ?_
  clear kG9
  subst ed
  cases hd
  refine hideG fun G9 kG9 => ?_
  obtain ⟨haL, haB, o, eo, is⟩ := S1.obj a _ ha
  obtain ⟨vs, hl, hv, _⟩ := isList_of eo is
  refine kG9 ?_
  clear kG9
  have hlt := Heap.lt_size eo
  have f := S1.fresh (Nat.le_refl h1.objs.size)
  refine wpAny_pyIter_list (s := c.s h1 tk1) hl ?_
  have hsz : vs.toArray.size = ds.length := by rw [List.size_toArray, hv.length]
  have W0 : Wk prog w c.A τ1 (.Name x px) (.ref h1.objs.size) [h1.objs.size, a] [h1.objs.size] vs.toArray.size (fun i h => h.IsListIter h1.objs.size a i ∧ h.IsList a vs.toArray) [x] (fun i => [ds.getD i .none]) := by
    refine Wk.name (Walks.list hh h1.objs.size a (Nat.ne_of_lt hlt) vs.toArray) (fun i h st b hb => ?_) (fun i => ds.getD i .none) (fun i v hi hP => ?_)
    · rcases List.mem_cons.mp hb with rfl | hb
      · obtain ⟨o, e, _⟩ := st.1; exact ⟨o, e⟩
      · rw [List.mem_singleton.mp hb]; obtain ⟨o, e, _⟩ := st.2; exact ⟨o, e⟩
    · refine hideG fun G9 kG9 => ?_
      obtain ⟨d, h1, h2⟩ := hv.get' (i := i) (v := v) (by simpa using hP)
      refine kG9 ?_
      clear kG9
      rw [List.getD_eq_getElem?_getD, h1]; exact h2
  rw [hsz] at W0
  have S2 : St prog w c τ1 tk1 h1 m1 (N1.del a) := S1.weak (fun _ _ e => e) fun b o e => by
    unfold NM.del at e
    split at e
    · cases e
    · exact e
  refine ⟨ds.length, [x], _, τ1, _, tk1, m1, N1.del a, [h1.objs.size, a], [h1.objs.size], _, rfl, l1, S2.grow fun b o e => Heap.get?_push_of_some _ e, W0, ?_, fun b hb => ?_, fun b hb => ?_, k⟩
  · exact ⟨⟨_, Heap.get?_push_size _ rfl, rfl, rfl⟩, Heap.IsList.push hl _⟩
  · rcases List.mem_cons.mp hb with rfl | hb
    · exact ⟨(NM.del_ne (Nat.ne_of_gt hlt)).trans f.1, f.2.2⟩
    · rw [List.mem_singleton.mp hb]
      exact ⟨NM.del_same _ _, haL⟩
  · rw [List.mem_singleton.mp hb]; exact f.2.1
end
end Mine
end PartT11
section PartQ3
open PySem PySem.W PyProof.Rows
set_option linter.unusedVariables false
namespace Mine
theorem getD_map {l : List Nat} {f : Nat → Nat} {i : Nat} (h : i < l.length) : (l.map f).getD i 0 = f (l.getD i 0) := by
  rw [List.getD_eq_getElem?_getD, List.getElem?_map, List.getElem?_eq_getElem h, List.getD_eq_getElem?_getD, List.getElem?_eq_getElem h]; rfl
theorem map_getD (l : List Nat) : (List.range l.length).map (fun i => l.getD i 0) = l := by
  refine List.ext_getElem (by simp) fun i h1 h2 => ?_
  simp only [List.getElem_map, List.getElem_range]
  rw [List.getD_eq_getElem?_getD, List.getElem?_eq_getElem h2]; rfl
theorem perm_pick {l p : List Nat} (hp : p.Perm (List.range l.length)) : (p.map fun i => l.getD i 0).Perm l := by
  have := hp.map fun i => l.getD i 0
  rwa [map_getD] at this
theorem mem_lt {p : List Nat} {n i : Nat} (hp : p.Perm (List.range n)) (hi : i < n) : p.getD i 0 < n := by
  have hl : p.length = n := by rw [hp.length_eq, List.length_range]
  exact List.mem_range.mp (hp.mem_iff.mp (by rw [List.getD_eq_getElem?_getD, List.getElem?_eq_getElem (by lia)]; exact List.getElem_mem _))
theorem pick_pw {l p : List Nat} (h : p.Pairwise fun i j => l.getD i 0 < l.getD j 0) : (p.map fun i => l.getD i 0).Pairwise (· < ·) := by
  rw [List.pairwise_map]; exact h
theorem pw_mono {l : List Nat} (h : l.Pairwise (· < ·)) {a b : Nat} (ha : a < l.length) (hb : b < l.length) : l.getD a 0 < l.getD b 0 ↔ a < b := by
  have e : ∀ i (hi : i < l.length), l.getD i 0 = l[i] := fun i hi => by rw [List.getD_eq_getElem?_getD, List.getElem?_eq_getElem hi]; rfl
  rw [e a ha, e b hb]
  have q := List.pairwise_iff_getElem.mp h
  constructor
  · intro z
    rcases Nat.lt_trichotomy a b with h | h | h
    · exact h
    · subst h; lia
    · have := q b a hb ha h; (exfalso; lia)
  · exact q a b ha hb
/- all that the last statements ask, in plain words -/
structure Facts (n : Nat) (ts sg : List Nat) (Pf Lf : Nat → Nat) : Prop where
  tsn : ts.Nodup
  tsl : ts.length = n
  ts64 : ∀ t ∈ ts, t < 64
  hT : ∀ i, i < n → ts.getD (sg.getD i 0) 0 = Pf i
  p64 : ∀ i, i < n → Pf i < 64
  mono : ∀ a b, a < n → b < n → (Pf a < Pf b ↔ a < b)
  inj : ∀ a b, a < n → b < n → 64 * Lf a + Pf a = 64 * Lf b + Pf b → a = b
  ord : ∀ rho : List Nat, rho.Perm (List.range n) → rho.Pairwise (fun i j => 64 * Lf i + Pf i < 64 * Lf j + Pf j) → ∀ i, i < n → wpath (ts.take (sg.getD i 0)) (ts.getD (sg.getD i 0) 0) = sidesF (fun i => 64 * Lf i + Pf i) rho i
noncomputable def keysOf' (ps ls : List Nat) : List Nat := List.zipWith (fun p l => 64 * l + p) ps ls
theorem keys_mod : ∀ {ps ls : List Nat}, ls.length = ps.length → (∀ p ∈ ps, p < 64) → (keysOf' ps ls).map (· % 64) = ps
  | [], _, _, _ => by simp [keysOf']
  | p :: ps, [], h, _ => by simp at h
  | p :: ps, l :: ls, h, hp => by
    have := keys_mod (ps := ps) (ls := ls) (by simpa using h) fun q hq => hp q (List.mem_cons_of_mem _ hq)
    have h64 := hp p (List.mem_cons_self)
    simp only [keysOf', List.zipWith_cons_cons, List.map_cons] at this ⊢
    rw [this]
    congr 1
    lia
theorem ts_perm {ps ls ks : List Nat} (ll : ls.length = ps.length) (p64 : ∀ p ∈ ps, p < 64) (hk : ks.Perm (keysOf' ps ls)) : (ks.map (· % 64)).Perm ps := by
  have := hk.map (· % 64)
  rwa [keys_mod ll p64] at this
theorem facts {n : Nat} {ps ls ks sg pi : List Nat} (lp : ps.length = n) (ll : ls.length = ps.length) (nd : ps.Nodup) (p64 : ∀ p ∈ ps, p < 64) (hk : ks.Perm (keysOf' ps ls)) (hkw : ks.Pairwise (· < ·))
    (hsg : sg.Perm (List.range (ks.map (· % 64)).length)) (hsw : sg.Pairwise fun i j => (ks.map (· % 64)).getD i 0 < (ks.map (· % 64)).getD j 0) (hpi : pi.Perm (List.range ps.length)) (hpw : pi.Pairwise fun i j => ps.getD i 0 < ps.getD j 0) :
    Facts n (ks.map (· % 64)) sg (fun i => ps.getD (pi.getD i 0) 0) (fun i => ls.getD (pi.getD i 0) 0) := by
  have tp := ts_perm ll p64 hk
  generalize hts : ks.map (· % 64) = ts at *
  have tl : ts.length = n := by rw [tp.length_eq, lp]
  have sl : sg.length = n := by rw [hsg.length_eq, List.length_range, tl]
  have pl : pi.length = n := by rw [hpi.length_eq, List.length_range, lp]
  have e1 : (sg.map fun i => ts.getD i 0) = pi.map fun i => ps.getD i 0 := sorted_eq ((perm_pick hsg).trans (tp.trans (perm_pick hpi).symm)) (pick_pw hsw) (pick_pw hpw)
  have hT : ∀ i, i < n → ts.getD (sg.getD i 0) 0 = ps.getD (pi.getD i 0) 0 := fun i hi => by
    have := congrArg (fun l => l.getD i 0) e1
    rwa [getD_map (f := fun i => ts.getD i 0) (by lia), getD_map (f := fun i => ps.getD i 0) (by lia)] at this
  have hP : ∀ i, i < n → ps.getD (pi.getD i 0) 0 < 64 := fun i hi => by
    have := mem_lt (lp ▸ hpi) hi
    refine p64 _ ?_
    rw [List.getD_eq_getElem?_getD, List.getElem?_eq_getElem (by lia)]; exact List.getElem_mem _
  have mono : ∀ a b, a < n → b < n → (ps.getD (pi.getD a 0) 0 < ps.getD (pi.getD b 0) 0 ↔ a < b) := fun a b ha hb => by
    have := pw_mono (pick_pw hpw) (a := a) (b := b) (by rw [List.length_map]; lia) (by rw [List.length_map]; lia)
    rwa [getD_map (f := fun i => ps.getD i 0) (by lia), getD_map (f := fun i => ps.getD i 0) (by lia)] at this
  have inj : ∀ a b, a < n → b < n → 64 * ls.getD (pi.getD a 0) 0 + ps.getD (pi.getD a 0) 0 = 64 * ls.getD (pi.getD b 0) 0 + ps.getD (pi.getD b 0) 0 → a = b := fun a b ha hb e => by
    have h1 := hP a ha
    have h2 := hP b hb
    have h3 := mono a b ha hb
    have h4 := mono b a hb ha
    lia
  refine ⟨tp.nodup_iff.mpr nd, tl, fun t ht => p64 t (tp.mem_iff.mp ht), hT, hP, mono, inj, fun rho hr hrw i hi => ?_⟩
  -- the heap's order is the order
  have rl : rho.length = n := by rw [hr.length_eq, List.length_range]
  have ek : ks = rho.map fun i => 64 * ls.getD (pi.getD i 0) 0 + ps.getD (pi.getD i 0) 0 := by
    refine sorted_eq ?_ hkw (by rw [List.pairwise_map]; exact hrw)
    refine hk.trans ?_
    have k1 : keysOf' ps ls = (List.range n).map fun j => 64 * ls.getD j 0 + ps.getD j 0 := by
      refine List.ext_getElem (by simp [keysOf', ll, lp]) fun j h1 h2 => ?_
      simp only [keysOf', List.getElem_zipWith, List.getElem_map, List.getElem_range]
      simp only [List.length_map, List.length_range] at h2
      rw [List.getD_eq_getElem?_getD, List.getElem?_eq_getElem (by lia), List.getD_eq_getElem?_getD, List.getElem?_eq_getElem (by lia)]; rfl
    have k2 : ((List.range n).map fun i => 64 * ls.getD (pi.getD i 0) 0 + ps.getD (pi.getD i 0) 0) = pi.map fun j => 64 * ls.getD j 0 + ps.getD j 0 := by
      refine List.ext_getElem (by simp [pl]) fun j h1 h2 => ?_
      simp only [List.getElem_map, List.getElem_range]
      simp only [List.length_map] at h2
      rw [List.getD_eq_getElem?_getD (l := pi), List.getElem?_eq_getElem h2]; rfl
    have r1 := hr.map fun i => 64 * ls.getD (pi.getD i 0) 0 + ps.getD (pi.getD i 0) 0
    rw [k2] at r1
    have r2 := hpi.map fun j => 64 * ls.getD j 0 + ps.getD j 0
    rw [lp, ← k1] at r2
    exact r2.symm.trans r1.symm
  have et : ts = rho.map fun i => ps.getD (pi.getD i 0) 0 := by
    rw [← hts, ek, List.map_map]
    refine List.map_congr_left fun i hi => ?_
    have := hP i (List.mem_range.mp (hr.mem_iff.mp hi))
    simp only [Function.comp]
    lia
  exact words_are_sides (n := n) (K := fun i => 64 * ls.getD (pi.getD i 0) 0 + ps.getD (pi.getD i 0) 0) (P := fun i => ps.getD (pi.getD i 0) 0) inj mono hr hrw et hT (fun i hi => mem_lt (tl ▸ hsg) hi) hi
end Mine
end PartQ3
section PartA1
open PySem PySem.W PyProof.Rows
set_option linter.unusedVariables false
set_option maxRecDepth 100000
namespace Mine
/- the law's own text -/
noncomputable def lawSc : Scope := scopeOf (fnStmt 15)
noncomputable def lawS (k : Nat) : Stmt := (bodyOf (fnStmt 15)).getD k default
noncomputable def isCel (sc : Scope) (x : Str) : Bool := sc.names.lookup x == some .cell && !(x == ("__debug__" : Str))
section
variable {prog : Program} {w : World} {c : Cx} {env : Env} {sc : Scope} {m : LM} {N : NM} {Pn Pb Pc : LM → NM → Prop} {Pr : V → LM → NM → Prop} {P : V → LM → NM → Prop}
theorem isCel_k {x : Str} (E : FE env c sc) (h : isCel sc x = true) : env.kindOf x = some .cell := by
  unfold isCel at h
  rw [Bool.and_eq_true] at h
  show env.scope.names.lookup x = _
  rw [E.s]; exact beq_iff_eq.mp h.1
theorem isCel_d {sc : Scope} {x : Str} (h : isCel sc x = true) : (x == ("__debug__" : Str)) = false := by
  unfold isCel at h
  rw [Bool.and_eq_true] at h
  simpa using h.2
theorem Ev.ce {x : Str} {pos : Pos} {a : Addr} {d : V} (E : FE env c sc) (hx : isCel sc x = true) (hc : env.cells.lookup x = some a) (hd : Rd c N a (.cell (some d))) (h : P d m N) : Ev prog w c env (.Name x pos) m N P :=
  Ev.cell E.kind (isCel_k E hx) hc hd h (isCel_d hx)
theorem Sn.ce {x : Str} {d : V} {a : Addr} {o : Option V} {P : LM → NM → Prop} (E : FE env c sc) (hx : isCel sc x = true) (hc : env.cells.lookup x = some a) (ha : N a = some (.cell o)) (h : P m (N.put a (.cell (some d)))) : Sn prog w c env x d m N P :=
  Sn.cell E.kind (isCel_k E hx) hc ha h
/- what is no list stands -/
noncomputable def NL (N N' : NM) : Prop := ∀ a o, N a = some o → (∀ ds, o ≠ .list ds) → N' a = some o
theorem NL.refl (N : NM) : NL N N := fun _ _ e _ => e
theorem NL.new {N N' : NM} {b : Addr} {x : AO} (h : NL N N') (hb : N' b = none) : NL N (N'.put b x) := fun a o e k => by
  have := h a o e k
  rw [NM.put_ne fun q => by rw [q, hb] at this; cases this]; exact this
theorem NL.upd {N N' : NM} {b : Addr} {ds : List V} {x : AO} (h : NL N N') (hb : N' b = some (.list ds)) : NL N (N'.put b x) := fun a o e k => by
  have := h a o e k
  rw [NM.put_ne fun q => by rw [q, hb] at this; exact k _ (Option.some.inj this).symm]; exact this
/- int / int, of naturals -/
theorem Bi.divNN {a b : Nat} {z : Int} (hb : 0 < b) (hF : Fx (Float64.ofFrac false a b) z) (h : P (.flt (Float64.ofFrac false a b)) m N) : Bi prog w c .Div (.int a) (.int b) m N P := by
  have e : (decide ((a : Int) < 0) != decide ((b : Int) < 0)) = false := by
    rw [decide_eq_false (by lia), decide_eq_false (by lia)]; rfl
  have hinf : Float64.isInf (Float64.ofFrac false a b) = false := by
    obtain ⟨k, ex, hd, _⟩ := hF.dec
    unfold Float64.isInf; rw [hd]
  refine Bi.divII (by lia) ?_ ?_
  · rw [e]; exact hinf
  · rw [e]; exact h
theorem trI_dec {h : UInt64} {i : Int} (e : trI h = some i) : ∃ sg k ex, Float64.decode (Float64.mul h 4618441417868443648) = Float64.Num.fin sg k ex ∧ Float64.truncOf sg k ex = i := by
  unfold trI at e
  split at e
  · rename_i sg k ex q
    exact ⟨sg, k, ex, q, Option.some.inj e⟩
  · cases e
theorem hsv_paint {p b q : Nat} (F : Fit w c 1) (hp : p < 64) (hb1 : 1 ≤ b) (hb8 : b ≤ 8) (hq1 : 1 ≤ q) (hq4 : q ≤ 4)
    (hP : ∀ a r g l, N a = none → hlsOk r g l = true → hlsH r g l = fl p → hlsL r g l = fl (b * (8 - q)) → P (.ref a) m (N.put a (.tup [.flt r, .flt g, .flt l]))) :
    Ca prog w c (.ref 56) [.flt (fl p), .flt (Float64.ofFrac false q 4), .flt (Float64.ofFrac false b 8)] m N P := by
  obtain ⟨r, g, l, e, h1, h2, h3⟩ := paint hp hb1 hb8 hq1 hq4
  obtain ⟨sg, k, ex, hd, ht⟩ := trI_dec (trI_fl ⟨p, hp⟩)
  refine hsv_spec (i := ((6 * p / 64 : Nat) : Int)) F ?_ hd ht (by lia) (by lia) fun a ha => ?_
  · have f1 : Fx (Float64.ofFrac false q 4) (1024 * q) := Fx.frac (by decide) (by lia) (by lia) (by lia)
    have f0 : Fx (0 : UInt64) 0 := zero_Fx
    rw [Fx.cmp f1 f0, cmp_eq]
    exact decide_eq_false (by lia)
  · rw [e]
    exact hP a r g l ha h1 h2 h3
theorem Cp.inN {a : Addr} {ns : List Nat} {k : Nat} (hr : Rd c N a (.list (ns.map fun p : Nat => V.int p))) (h : P (.bool (decide (k ∈ ns))) m N) : Cp prog w c .In (.int k) (.ref a) m N P := by
  refine Cp.inI (ns := ns.map fun p : Nat => (p : Int)) (by rw [List.map_map]; exact hr) ?_
  have : decide ((k : Int) ∈ ns.map fun p : Nat => (p : Int)) = decide (k ∈ ns) := by
    rw [decide_eq_decide]
    simp only [List.mem_map]
    constructor
    · rintro ⟨x, hx, e⟩
      have : x = k := by lia
      rw [← this]; exact hx
    · exact fun h => ⟨k, h, rfl⟩
  rw [this]; exact h
end
theorem nodup_le : ∀ {l t : List Nat}, l.Nodup → (∀ x ∈ l, x ∈ t) → l.length ≤ t.length
  | [], _, _, _ => Nat.zero_le _
  | x :: l, t, hn, h => by
    have hx := h x (List.mem_cons_self)
    have hn' := List.nodup_cons.mp hn
    have := nodup_le (t := t.erase x) hn'.2 fun y hy => (List.mem_erase_of_ne fun e => hn'.1 (by rw [← e]; exact hy)).mpr (h y (List.mem_cons_of_mem _ hy))
    rw [List.length_erase_of_mem hx] at this
    have : 0 < t.length := List.length_pos_of_mem hx
    rw [List.length_cons]; lia
theorem free_place {taken : List Nat} (h : taken.length < 64) (p : Nat) (hp : p < 64) : ∃ d, (p + d) % 64 ∉ taken := by
  refine Classical.byContradiction fun hc => ?_
  have hc : ∀ d, (p + d) % 64 ∈ taken := fun d => Classical.byContradiction fun q => hc ⟨d, q⟩
  have := nodup_le (l := List.range 64) (t := taken) List.nodup_range fun v hv => by
    have hv := List.mem_range.mp hv
    have := hc (v + 64 - p)
    rw [show (p + (v + 64 - p)) % 64 = v by lia] at this
    exact this
  simp at this
  lia
end Mine
end PartA1
section PartA2
open PySem PySem.W PyProof.Rows
set_option linter.unusedVariables false
set_option maxRecDepth 100000
namespace Mine
noncomputable def keysOf (ps ls : List Nat) : List Nat := List.zipWith (fun p l => 64 * l + p) ps ls
/- after k turns of the first loop -/
structure I1 (c : Cx) (N0 : NM) (aS tk sp hp : Addr) (ps ls : List Nat) (rs : List Addr) (l : List It) (m : LM) (N : NM) : Prop where
  rl : rs.length = ps.length
  ll : ls.length = ps.length
  nd : ps.Nodup
  p64 : ∀ p ∈ ps, p < 64
  l64 : ∀ p ∈ ls, p < 64
  inn : ∀ i, i < ps.length → rs.getD i 0 ≠ tk ∧ rs.getD i 0 ≠ sp ∧ rs.getD i 0 ≠ hp ∧ N (rs.getD i 0) = some (.list [.int (ps.getD i 0), .int (ls.getD i 0)])
  m1 : m (Str.ofString "script") = some (.ref aS)
  m2 : m (Str.ofString "taken") = some (.ref tk)
  m3 : m (Str.ofString "spots") = some (.ref sp)
  m4 : m (Str.ofString "heap") = some (.ref hp)
  n1 : N tk = some (.list (ps.map fun p : Nat => V.int p))
  n2 : N sp = some (.list (rs.map V.ref))
  n3 : N hp = some (.list (l.map rf))
  hp : IsHeap l
  pm : (l.map (·.2)).Perm (keysOf ps ls)
  ky : ∀ x ∈ l, Ky c N x
  nl : NL N0 N
theorem Ky.new {c : Cx} {N : NM} {x : It} {b : Addr} {o : AO} (h : Ky c N x) (hb : N b = none) : Ky c (N.put b o) x := ⟨h.1, h.2.put_new hb⟩
section
variable {prog : Program} {w : World} {c : Cx} {env : Env} {m : LM} {N : NM} {Pn Pb Pc : LM → NM → Prop} {Pr : V → LM → NM → Prop} {P : V → LM → NM → Prop}
theorem table_k {k : Nat} (h : k < 7) : ∃ z : Int, ([V.int 744, .int 330, .int 2006, .int 1335, .int 1968, .int 1155, .int 94] : List V)[k]? = some (.int z) := by
  rcases (by lia : k = 0 ∨ k = 1 ∨ k = 2 ∨ k = 3 ∨ k = 4 ∨ k = 5 ∨ k = 6) with rfl | rfl | rfl | rfl | rfl | rfl | rfl <;> exact ⟨_, rfl⟩
theorem loop1 {aS tk sp hp aC : Addr} {ns : List Int} {n : Nat} (E : FE env c lawSc) (hC : env.cells.lookup (Str.ofString "count") = some aC) (F : Fit w c 2) (hn : n ≤ 7)
    (hS : c.F aS = some (.list (ns.map V.int))) (hns : ns.length ≤ 63) (h12 : tk ≠ sp) (h13 : tk ≠ hp) (h23 : sp ≠ hp)
    (m1 : m (Str.ofString "script") = some (.ref aS)) (m2 : m (Str.ofString "taken") = some (.ref tk)) (m3 : m (Str.ofString "spots") = some (.ref sp)) (m4 : m (Str.ofString "heap") = some (.ref hp))
    (n1 : N tk = some (.list [])) (n2 : N sp = some (.list [])) (n3 : N hp = some (.list [])) (nC : N aC = some (.cell (some (.int n))))
    (fin : ∀ ps ls rs l m' N', ps.length = n → I1 c N aS tk sp hp ps ls rs l m' N' → Pn m' N') : Ex prog w c env (lawS 4) m N Pn Pb Pc Pr := by
  have hB := F.B
  refine Ex.forRange n 0 (fun k m' N' => ∃ ps ls rs l, ps.length = k ∧ I1 c N aS tk sp hp ps ls rs l m' N') F.h E.L E.kind (isLoc_k E (by with_unfolding_all rfl)) ?_ ?_ ?_ ?_
  · (repeat (first | with_reducible refine Ev.call ?_ (by with_unfolding_all rfl) (by with_unfolding_all rfl) (by with_unfolding_all rfl) | with_reducible refine Ev.b_range (by assumption) (by assumption) (by with_unfolding_all rfl) ⟨clb_ty, ?_⟩ | with_reducible refine Ar.cons ?_ (by with_unfolding_all rfl)))
    refine Ev.ce E (by with_unfolding_all rfl) hC (.inl nC) ?_
    (repeat (first | with_reducible refine Ar.nil ?_))
    refine Ca.range1 fun ra hra => ?_
    refine ⟨ra, _, rfl, NM.put_same _ _ _, by exact Int.natCast_nonneg _, by exact Int.natCast_nonneg _, by exact Int.natCast_nonneg _, by lia, by lia, [], [], [], [], rfl, ?_⟩
    exact ⟨rfl, rfl, List.nodup_nil, by simp, by simp, fun i hi => by simp at hi, m1, m2, m3, m4, NM.keep hra n1, NM.keep hra n2, NM.keep hra n3, fun i _ hi => by simp at hi, .refl _, by simp, (NL.refl N).new hra⟩
  · intro c' k m5 N5 X hk I9
    refine hideG fun G9 kG9 => ?_
    obtain ⟨ps, ls, rs, l, rfl, I⟩ := I9
    refine kG9 ?_
    clear kG9
    have E' := E.ext X
    have F' := F.ext X
    have hB' := F'.B
    have e0 : (0 : Int) + (ps.length : Nat) = ps.length := by lia
    rw [e0]
    refine hideG fun G9 kG9 => ?_
    obtain ⟨rl, ll, nd, p64, l64, inn, q1, q2, q3, q4, r1, r2, r3, hhp, pm, ky, nl⟩ := I
    refine kG9 ?_
    clear kG9
    (repeat (first | with_reducible refine Ev.bin ?_ | with_reducible refine Ev.int ?_ | with_reducible refine Ev.sub ?_ | with_reducible refine Ev.list ?_ | with_reducible refine Es.cons ?_ | with_reducible refine Ar.cons ?_ (by with_unfolding_all rfl) | with_reducible refine Ar.nil ?_ | with_reducible refine Ex.assign ?_ (by with_unfolding_all rfl)))
    refine ⟨by simp, fun a1 ha1 => ?_⟩
    (repeat (first | with_reducible refine Ev.nm (by assumption) (by with_unfolding_all rfl) (by repeat (first | with_reducible assumption | with_reducible exact LM.put_same _ _ _ | with_reducible refine (LM.put_ne (by decide)).trans ?_ | with_unfolding_all rfl)) ?_))
    obtain ⟨z, hz⟩ := table_k (show ps.length < 7 by exact Nat.lt_of_lt_of_le (by assumption) (by assumption))
    refine Sb.list (.inl (NM.put_same _ _ _)) (by exact Int.natCast_nonneg _) (by lia) (by rw [Int.toNat_natCast]; exact hz) ?_ (by with_unfolding_all rfl)
    (repeat (first | with_reducible refine Ev.nm (by assumption) (by with_unfolding_all rfl) (by repeat (first | with_reducible assumption | with_reducible exact LM.put_same _ _ _ | with_reducible refine (LM.put_ne (by decide)).trans ?_ | with_unfolding_all rfl)) ?_ | with_reducible refine Ev.int ?_ | with_reducible refine Ev.sliceStep (fun _ _ => by with_unfolding_all rfl) ?_ | with_reducible refine Ev.call ?_ (by with_unfolding_all rfl) (by with_unfolding_all rfl) (by with_unfolding_all rfl) | with_reducible refine Ev.b_sum (by assumption) (by assumption) (by with_unfolding_all rfl) ⟨clb_bi, ?_⟩ | with_reducible refine Ar.cons ?_ (by with_unfolding_all rfl)))
    refine ⟨_, ns, _, _, rfl, rfl, rfl, by decide, .inr (X.F _ _ hS), by exact Nat.le_trans (by assumption) (by decide), fun a2 ms ha2 => ?_⟩
    (repeat (first | with_reducible refine Ar.nil ?_))
    refine Ca.sum F'.h (.inl (NM.put_same _ _ _)) fun z2 => ?_
    (repeat (first | with_reducible refine Ev.nm (by assumption) (by with_unfolding_all rfl) (by repeat (first | with_reducible assumption | with_reducible exact LM.put_same _ _ _ | with_reducible refine (LM.put_ne (by decide)).trans ?_ | with_unfolding_all rfl)) ?_ | with_reducible refine Ev.bin ?_ | with_reducible refine Ev.int ?_ | with_reducible refine Bi.addI ?_ | with_reducible refine Bi.modI (by decide) ?_ | with_reducible refine Es.cons ?_ | with_reducible refine Sn.nm (by assumption) (by with_unfolding_all rfl) ?_ | with_reducible refine Ex.assign ?_ (by with_unfolding_all rfl)))
    generalize z + z2 = D
    -- the place
    obtain ⟨p0, hp0, e1⟩ : ∃ p0 : Nat, p0 < 64 ∧ D.fmod 64 = p0 := ⟨(D.fmod 64).toNat, by have := Int.fmod_lt_of_pos D (show (0 : Int) < 64 by decide); have := Int.fmod_nonneg_of_pos D (show (0 : Int) < 64 by decide); lia, by have := Int.fmod_nonneg_of_pos D (show (0 : Int) < 64 by decide); lia⟩
    rw [e1]
    refine Ex.cut (fun _ _ m' N' => N' = (N5.put a1 (.list [.int 744, .int 330, .int 2006, .int 1335, .int 1968, .int 1155, .int 94])).put a2 (.list (ms.map V.int)) ∧ ∃ p : Nat, p < 64 ∧ p ∉ ps ∧ m' (Str.ofString "place") = some (.int p) ∧ m' (Str.ofString "draw") = some (.int D) ∧
      m' (Str.ofString "script") = some (.ref aS) ∧ m' (Str.ofString "taken") = some (.ref tk) ∧ m' (Str.ofString "spots") = some (.ref sp) ∧ m' (Str.ofString "heap") = some (.ref hp)) ?_ ?_
    · refine Ex.while ?_
      obtain ⟨d, hd⟩ := free_place (taken := ps) (by lia) p0 hp0
      have rt : ((N5.put a1 (.list [.int 744, .int 330, .int 2006, .int 1335, .int 1968, .int 1155, .int 94])).put a2 (.list (ms.map V.int))) tk = some (.list (ps.map fun p : Nat => V.int p)) := by (repeat (first | with_reducible assumption | with_reducible exact NM.put_same _ _ _ | with_reducible refine NM.keep (by with_reducible assumption) ?_ | with_reducible refine (NM.put_ne (by with_reducible assumption)).trans ?_ | with_reducible refine (NM.put_ne (Ne.symm (by with_reducible assumption))).trans ?_))
      generalize (N5.put a1 (.list [.int 744, .int 330, .int 2006, .int 1335, .int 1968, .int 1155, .int 94])).put a2 (.list (ms.map V.int)) = N6 at rt
      refine (?_ : ∀ (d p : Nat) (m : LM), p < 64 → (p + d) % 64 ∉ ps → m (Str.ofString "place") = some (.int p) → m (Str.ofString "draw") = some (.int D) → m (Str.ofString "script") = some (.ref aS) → m (Str.ofString "taken") = some (.ref tk) → m (Str.ofString "spots") = some (.ref sp) → m (Str.ofString "heap") = some (.ref hp) →
        Wh prog w c' env _ _ m N6 _ _) d p0 _ hp0 hd ?_ ?_ ?_ ?_ ?_ ?_
      rotate_left
      · (repeat (first | with_reducible assumption | with_reducible exact LM.put_same _ _ _ | with_reducible refine (LM.put_ne (by decide)).trans ?_))
      · (repeat (first | with_reducible assumption | with_reducible exact LM.put_same _ _ _ | with_reducible refine (LM.put_ne (by decide)).trans ?_))
      · (repeat (first | with_reducible assumption | with_reducible exact LM.put_same _ _ _ | with_reducible refine (LM.put_ne (by decide)).trans ?_))
      · (repeat (first | with_reducible assumption | with_reducible exact LM.put_same _ _ _ | with_reducible refine (LM.put_ne (by decide)).trans ?_))
      · (repeat (first | with_reducible assumption | with_reducible exact LM.put_same _ _ _ | with_reducible refine (LM.put_ne (by decide)).trans ?_))
      · (repeat (first | with_reducible assumption | with_reducible exact LM.put_same _ _ _ | with_reducible refine (LM.put_ne (by decide)).trans ?_))
      intro d
      induction d with
      | zero =>
        intro p m hp hd w1 w2 w3 w4 w5 w6
        refine Wh.turn ?_
        (repeat (first | with_reducible refine Ev.nm (by assumption) (by with_unfolding_all rfl) (by repeat (first | with_reducible assumption | with_reducible exact LM.put_same _ _ _ | with_reducible refine (LM.put_ne (by decide)).trans ?_ | with_unfolding_all rfl)) ?_ | with_reducible refine Te.cmp ?_ (by with_unfolding_all rfl)))
        refine Cp.inN (.inl rt) ?_
        (repeat (first | with_reducible refine Tu.bool ?_))
        have hd' : p ∉ ps := by rw [Nat.add_zero, Nat.mod_eq_of_lt hp] at hd; exact hd
        refine ⟨fun q => absurd (of_decide_eq_true q) hd', fun _ => ?_⟩
        exact ⟨rfl, p, hp, hd', w1, w2, w3, w4, w5, w6⟩
      | succ d ih =>
        intro p m hp hd w1 w2 w3 w4 w5 w6
        refine Wh.turn ?_
        (repeat (first | with_reducible refine Ev.nm (by assumption) (by with_unfolding_all rfl) (by repeat (first | with_reducible assumption | with_reducible exact LM.put_same _ _ _ | with_reducible refine (LM.put_ne (by decide)).trans ?_ | with_unfolding_all rfl)) ?_ | with_reducible refine Te.cmp ?_ (by with_unfolding_all rfl)))
        refine Cp.inN (.inl rt) ?_
        (repeat (first | with_reducible refine Tu.bool ?_))
        refine ⟨fun q => ?_, fun q => ?_⟩
        · (repeat (first | with_reducible refine Ev.nm (by assumption) (by with_unfolding_all rfl) (by repeat (first | with_reducible assumption | with_reducible exact LM.put_same _ _ _ | with_reducible refine (LM.put_ne (by decide)).trans ?_ | with_unfolding_all rfl)) ?_ | with_reducible refine Ev.bin ?_ | with_reducible refine Ev.int ?_ | with_reducible refine Bi.addI ?_ | with_reducible refine Bi.modI (by decide) ?_ | with_reducible refine Es.cons ?_ | with_reducible refine Es.nil ?_ | with_reducible refine Sn.nm (by assumption) (by with_unfolding_all rfl) ?_ | with_reducible refine Ex.assign ?_ (by with_unfolding_all rfl)))
          have ep : ((p : Int) + 1).fmod 64 = ((p + 1) % 64 : Nat) := by rw [Int.fmod_eq_emod_of_nonneg _ (by decide)]; lia
          rw [ep]
          skip
          refine ih ((p + 1) % 64) _ (by lia) (by rw [show ((p + 1) % 64 + d) % 64 = (p + (d + 1)) % 64 by lia]; exact hd) ?_ ?_ ?_ ?_ ?_ ?_
          · (repeat (first | with_reducible assumption | with_reducible exact LM.put_same _ _ _ | with_reducible refine (LM.put_ne (by decide)).trans ?_))
          · (repeat (first | with_reducible assumption | with_reducible exact LM.put_same _ _ _ | with_reducible refine (LM.put_ne (by decide)).trans ?_))
          · (repeat (first | with_reducible assumption | with_reducible exact LM.put_same _ _ _ | with_reducible refine (LM.put_ne (by decide)).trans ?_))
          · (repeat (first | with_reducible assumption | with_reducible exact LM.put_same _ _ _ | with_reducible refine (LM.put_ne (by decide)).trans ?_))
          · (repeat (first | with_reducible assumption | with_reducible exact LM.put_same _ _ _ | with_reducible refine (LM.put_ne (by decide)).trans ?_))
          · (repeat (first | with_reducible assumption | with_reducible exact LM.put_same _ _ _ | with_reducible refine (LM.put_ne (by decide)).trans ?_))
        · exact ⟨rfl, p, hp, of_decide_eq_false q, w1, w2, w3, w4, w5, w6⟩
    intro m7 N7 I9
    refine hideG fun G9 kG9 => ?_
    obtain ⟨rfl, p, hp64, hpp, w1, w2, w3, w4, w5, w6⟩ := I9
    refine kG9 ?_
    clear kG9
    have inn1 : ∀ i, i < ps.length → rs.getD i 0 ≠ tk ∧ rs.getD i 0 ≠ sp ∧ rs.getD i 0 ≠ hp ∧ ((N5.put a1 (.list [.int 744, .int 330, .int 2006, .int 1335, .int 1968, .int 1155, .int 94])).put a2 (.list (ms.map V.int))) (rs.getD i 0) = some (.list [.int (ps.getD i 0), .int (ls.getD i 0)]) :=
      fun i hi => let ⟨x1, x2, x3, x4⟩ := inn i hi; ⟨x1, x2, x3, NM.keep ha2 (NM.keep ha1 x4)⟩
    have ky1 : ∀ x ∈ l, Ky c ((N5.put a1 (.list [.int 744, .int 330, .int 2006, .int 1335, .int 1968, .int 1155, .int 94])).put a2 (.list (ms.map V.int))) x := fun x hx => ((ky x hx).new ha1).new ha2
    have nl1 := (nl.new (x := .list [.int 744, .int 330, .int 2006, .int 1335, .int 1968, .int 1155, .int 94]) ha1).new (x := .list (ms.map V.int)) ha2
    have s1 := NM.keep (x := .list (ms.map V.int)) ha2 (NM.keep (x := .list [.int 744, .int 330, .int 2006, .int 1335, .int 1968, .int 1155, .int 94]) ha1 r1)
    have s2 := NM.keep (x := .list (ms.map V.int)) ha2 (NM.keep (x := .list [.int 744, .int 330, .int 2006, .int 1335, .int 1968, .int 1155, .int 94]) ha1 r2)
    have s3 := NM.keep (x := .list (ms.map V.int)) ha2 (NM.keep (x := .list [.int 744, .int 330, .int 2006, .int 1335, .int 1968, .int 1155, .int 94]) ha1 r3)
    generalize (N5.put a1 (.list [.int 744, .int 330, .int 2006, .int 1335, .int 1968, .int 1155, .int 94])).put a2 (.list (ms.map V.int)) = N7 at inn1 ky1 nl1 s1 s2 s3
    clear inn ky nl r1 r2 r3 ha1 ha2 hz
    (repeat (first | with_reducible refine Ev.nm (by assumption) (by with_unfolding_all rfl) (by repeat (first | with_reducible assumption | with_reducible exact LM.put_same _ _ _ | with_reducible refine (LM.put_ne (by decide)).trans ?_ | with_unfolding_all rfl)) ?_ | with_reducible refine Ev.append ?_ (by with_unfolding_all rfl) (by with_unfolding_all rfl) (by with_unfolding_all rfl) | with_reducible refine Es.cons ?_ | with_reducible refine Ex.expr ?_ (FE.inter (by assumption)) (by with_unfolding_all rfl)))
    refine ⟨Ty.list (.inl s1), ?_⟩
    (repeat (first | with_reducible refine Ev.nm (by assumption) (by with_unfolding_all rfl) (by repeat (first | with_reducible assumption | with_reducible exact LM.put_same _ _ _ | with_reducible refine (LM.put_ne (by decide)).trans ?_ | with_unfolding_all rfl)) ?_ | with_reducible refine Ar.cons ?_ (by with_unfolding_all rfl) | with_reducible refine Ar.nil ?_))
    refine Ca.append s1 (by rw [List.length_map]; lia) ⟨rfl, ?_⟩
    (repeat (first | with_reducible refine Ev.nm (by assumption) (by with_unfolding_all rfl) (by repeat (first | with_reducible assumption | with_reducible exact LM.put_same _ _ _ | with_reducible refine (LM.put_ne (by decide)).trans ?_ | with_unfolding_all rfl)) ?_ | with_reducible refine Ev.bin ?_ | with_reducible refine Ev.int ?_ | with_reducible refine Ev.append ?_ (by with_unfolding_all rfl) (by with_unfolding_all rfl) (by with_unfolding_all rfl) | with_reducible refine Bi.addI ?_ | with_reducible refine Bi.modI (by decide) ?_ | with_reducible refine Bi.divI (by decide) (by decide) ?_ | with_reducible refine Es.cons ?_ | with_reducible refine Sn.nm (by assumption) (by with_unfolding_all rfl) ?_ | with_reducible refine Ex.assign ?_ (by with_unfolding_all rfl) | with_reducible refine Ex.expr ?_ (FE.inter (by assumption)) (by with_unfolding_all rfl)))
    obtain ⟨b, hb1, hb8, eb⟩ : ∃ b : Nat, 1 ≤ b ∧ b ≤ 8 ∧ (D.fdiv 64).fmod 8 + 1 = b := ⟨((D.fdiv 64).fmod 8 + 1).toNat, by
      have := Int.fmod_lt_of_pos (D.fdiv 64) (show (0 : Int) < 8 by decide); have := Int.fmod_nonneg_of_pos (D.fdiv 64) (show (0 : Int) < 8 by decide); lia⟩
    rw [eb]
    skip
    obtain ⟨q, hq1, hq4, eq⟩ : ∃ q : Nat, 1 ≤ q ∧ q ≤ 4 ∧ (D.fdiv 512).fmod 4 + 1 = q := ⟨((D.fdiv 512).fmod 4 + 1).toNat, by
      have := Int.fmod_lt_of_pos (D.fdiv 512) (show (0 : Int) < 4 by decide); have := Int.fmod_nonneg_of_pos (D.fdiv 512) (show (0 : Int) < 4 by decide); lia⟩
    rw [eq]
    skip
    have s2a : (N7.put tk (.list (ps.map (fun p : Nat => V.int p) ++ [V.int p]))) sp = some (.list (rs.map V.ref)) := (NM.put_ne (Ne.symm h12)).trans s2
    refine ⟨Ty.list (.inl s2a), ?_⟩
    (repeat (first | with_reducible refine Ev.nm (by assumption) (by with_unfolding_all rfl) (by repeat (first | with_reducible assumption | with_reducible exact LM.put_same _ _ _ | with_reducible refine (LM.put_ne (by decide)).trans ?_ | with_unfolding_all rfl)) ?_ | with_reducible refine Ev.bin ?_ | with_reducible refine Ev.int ?_ | with_reducible refine Ev.list ?_ | with_reducible refine Bi.subI ?_ | with_reducible refine Ar.cons ?_ (by with_unfolding_all rfl)))
    refine Bi.mulI (by exact Int.natCast_nonneg _) (by lia) ?_
    have el : (b : Int) * (8 - (q : Int)) = ((b * (8 - q) : Nat) : Int) := by
      rw [show (8 - (q : Int)) = ((8 - q : Nat) : Int) by lia]; push_cast; rfl
    rw [el]
    have hlight : b * (8 - q) < 64 := by
      have : b * (8 - q) ≤ 8 * 7 := Nat.mul_le_mul hb8 (by lia)
      lia
    generalize hlg : b * (8 - q) = lg at el hlight
    (repeat (first | with_reducible refine Ar.nil ?_))
    refine ⟨by simp, fun r hr => ?_⟩
    (repeat (first | with_reducible refine Ar.nil ?_))
    refine Ca.append ((NM.keep hr s2a)) (by rw [List.length_map]; lia) ⟨rfl, ?_⟩
    have hrtk : r ≠ tk := fun z => by rw [z, NM.put_same] at hr; cases hr
    have hrsp : r ≠ sp := fun z => by rw [z, s2a] at hr; cases hr
    have s3a : (N7.put tk (.list (ps.map (fun p : Nat => V.int p) ++ [V.int p]))) hp = some (.list (l.map rf)) := (NM.put_ne (Ne.symm h13)).trans s3
    have hrhp : r ≠ hp := fun z => by rw [z, s3a] at hr; cases hr
    have inn2 : ∀ i, i < (ps ++ [p]).length → (rs ++ [r]).getD i 0 ≠ tk ∧ (rs ++ [r]).getD i 0 ≠ sp ∧ (rs ++ [r]).getD i 0 ≠ hp ∧
        (((N7.put tk (.list (ps.map (fun p : Nat => V.int p) ++ [V.int p]))).put r (.list [.int p, .int lg])).put sp (.list (rs.map V.ref ++ [V.ref r]))) ((rs ++ [r]).getD i 0) = some (.list [.int ((ps ++ [p]).getD i 0), .int ((ls ++ [lg]).getD i 0)]) := fun i hi => by
      rw [List.length_append, List.length_singleton] at hi
      by_cases hlt : i < ps.length
      · refine hideG fun G9 kG9 => ?_
        obtain ⟨x1, x2, x3, x4⟩ := inn1 i hlt
        refine kG9 ?_
        clear kG9
        have g1 : (rs ++ [r]).getD i 0 = rs.getD i 0 := by rw [List.getD_eq_getElem?_getD, List.getD_eq_getElem?_getD, List.getElem?_append_left (by lia)]
        have g2 : (ps ++ [p]).getD i 0 = ps.getD i 0 := by rw [List.getD_eq_getElem?_getD, List.getD_eq_getElem?_getD, List.getElem?_append_left (by lia)]
        have g3 : (ls ++ [lg]).getD i 0 = ls.getD i 0 := by rw [List.getD_eq_getElem?_getD, List.getD_eq_getElem?_getD, List.getElem?_append_left (by lia)]
        rw [g1, g2, g3]
        exact ⟨x1, x2, x3, (NM.put_ne x2).trans (NM.keep hr ((NM.put_ne x1).trans x4))⟩
      · have e : i = ps.length := by lia
        have g1 : (rs ++ [r]).getD i 0 = r := by rw [List.getD_eq_getElem?_getD, e, ← rl, List.getElem?_concat_length]; rfl
        have g2 : (ps ++ [p]).getD i 0 = p := by rw [List.getD_eq_getElem?_getD, e, List.getElem?_concat_length]; rfl
        have g3 : (ls ++ [lg]).getD i 0 = lg := by rw [List.getD_eq_getElem?_getD, e, ← ll, List.getElem?_concat_length]; rfl
        rw [g1, g2, g3]
        exact ⟨hrtk, hrsp, hrhp, (NM.put_ne hrsp).trans (NM.put_same _ _ _)⟩
    have t1 : (((N7.put tk (.list (ps.map (fun p : Nat => V.int p) ++ [V.int p]))).put r (.list [.int p, .int lg])).put sp (.list (rs.map V.ref ++ [V.ref r]))) tk = some (.list ((ps ++ [p]).map fun p : Nat => V.int p)) := by
      rw [List.map_append]; exact (NM.put_ne h12).trans ((NM.put_ne (Ne.symm hrtk)).trans (NM.put_same _ _ _))
    have t2 : (((N7.put tk (.list (ps.map (fun p : Nat => V.int p) ++ [V.int p]))).put r (.list [.int p, .int lg])).put sp (.list (rs.map V.ref ++ [V.ref r]))) sp = some (.list ((rs ++ [r]).map V.ref)) := by
      rw [List.map_append]; exact NM.put_same _ _ _
    have t3 : (((N7.put tk (.list (ps.map (fun p : Nat => V.int p) ++ [V.int p]))).put r (.list [.int p, .int lg])).put sp (.list (rs.map V.ref ++ [V.ref r]))) hp = some (.list (l.map rf)) := (NM.put_ne (Ne.symm h23)).trans (NM.keep hr s3a)
    have nl2 : NL N (((N7.put tk (.list (ps.map (fun p : Nat => V.int p) ++ [V.int p]))).put r (.list [.int p, .int lg])).put sp (.list (rs.map V.ref ++ [V.ref r]))) := ((nl1.upd s1).new hr).upd (NM.keep hr s2a)
    have ky2 : ∀ x ∈ l, Ky c (((N7.put tk (.list (ps.map (fun p : Nat => V.int p) ++ [V.int p]))).put r (.list [.int p, .int lg])).put sp (.list (rs.map V.ref ++ [V.ref r]))) x := fun x hx => (((ky1 x hx).put s1).new hr).put (NM.keep hr s2a)
    generalize ((N7.put tk (.list (ps.map (fun p : Nat => V.int p) ++ [V.int p]))).put r (.list [.int p, .int lg])).put sp (.list (rs.map V.ref ++ [V.ref r])) = N8 at inn2 t1 t2 t3 nl2 ky2
    clear inn1 ky1 nl1 s1 s2 s3 s2a s3a hr
    (repeat (first | with_reducible refine Es.cons ?_))
    refine Ex.unpack [(Str.ofString "red", ⟨146, 8, 146, 11⟩), (Str.ofString "green", ⟨146, 13, 146, 18⟩), (Str.ofString "blue", ⟨146, 20, 146, 24⟩)] F'.h ?_ (by with_unfolding_all rfl) (by with_unfolding_all rfl) (by with_unfolding_all rfl) (by with_unfolding_all rfl)
    (repeat (first | with_reducible refine Ev.nm (by assumption) (by with_unfolding_all rfl) (by repeat (first | with_reducible assumption | with_reducible exact LM.put_same _ _ _ | with_reducible refine (LM.put_ne (by decide)).trans ?_ | with_unfolding_all rfl)) ?_ | with_reducible refine Ev.bin ?_ | with_reducible refine Ev.int ?_ | with_reducible refine Ev.call ?_ (by with_unfolding_all rfl) (by with_unfolding_all rfl) (by with_unfolding_all rfl) | with_reducible refine Ev.g_hsv_to_rgb (by assumption) (by assumption) (by with_unfolding_all rfl) ⟨clb_hsv (by assumption), ?_⟩ | with_reducible refine Ar.cons ?_ (by with_unfolding_all rfl)))
    refine Bi.divNN (a := p) (b := 64) (by decide) (fl_Fx (by lia)) ?_
    (repeat (first | with_reducible refine Ev.nm (by assumption) (by with_unfolding_all rfl) (by repeat (first | with_reducible assumption | with_reducible exact LM.put_same _ _ _ | with_reducible refine (LM.put_ne (by decide)).trans ?_ | with_unfolding_all rfl)) ?_ | with_reducible refine Ev.bin ?_ | with_reducible refine Ev.int ?_ | with_reducible refine Ar.cons ?_ (by with_unfolding_all rfl)))
    refine Bi.divNN (a := q) (b := 4) (by decide) (z := 1024 * q) (Fx.frac (by decide) (by lia) (by lia) (by lia)) ?_
    (repeat (first | with_reducible refine Ev.nm (by assumption) (by with_unfolding_all rfl) (by repeat (first | with_reducible assumption | with_reducible exact LM.put_same _ _ _ | with_reducible refine (LM.put_ne (by decide)).trans ?_ | with_unfolding_all rfl)) ?_ | with_reducible refine Ev.bin ?_ | with_reducible refine Ev.int ?_ | with_reducible refine Ar.cons ?_ (by with_unfolding_all rfl)))
    refine Bi.divNN (a := b) (b := 8) (by decide) (z := 512 * b) (Fx.frac (by decide) (by lia) (by lia) (by lia)) ?_
    (repeat (first | with_reducible refine Ar.nil ?_))
    refine hsv_paint (F'.le (by decide)) hp64 hb1 hb8 hq1 hq4 fun a3 cr cg cb ha3 ok eh elt => ?_
    refine ⟨a3, _, rfl, .inl (NM.put_same _ _ _), rfl, ?_⟩
    show Sn _ _ _ _ (Str.ofString "red") _ _ _ _
    (repeat (first | with_reducible refine Sn.nm (by assumption) (by with_unfolding_all rfl) ?_))
    show Sn _ _ _ _ (Str.ofString "green") _ _ _ _
    (repeat (first | with_reducible refine Sn.nm (by assumption) (by with_unfolding_all rfl) ?_))
    show Sn _ _ _ _ (Str.ofString "blue") _ _ _ _
    (repeat (first | with_reducible refine Sn.nm (by assumption) (by with_unfolding_all rfl) ?_))
    show Es _ _ _ _ _ _ _ _ _ _ _
    refine Es.cons ?_
    refine Ex.unpack [(Str.ofString "hue", ⟨147, 8, 147, 11⟩), (Str.ofString "light", ⟨147, 13, 147, 18⟩), (Str.ofString "rest", ⟨147, 20, 147, 24⟩)] F'.h ?_ (by with_unfolding_all rfl) (by with_unfolding_all rfl) (by with_unfolding_all rfl) (by with_unfolding_all rfl)
    (repeat (first | with_reducible refine Ev.nm (by assumption) (by with_unfolding_all rfl) (by repeat (first | with_reducible assumption | with_reducible exact LM.put_same _ _ _ | with_reducible refine (LM.put_ne (by decide)).trans ?_ | with_unfolding_all rfl)) ?_ | with_reducible refine Ev.call ?_ (by with_unfolding_all rfl) (by with_unfolding_all rfl) (by with_unfolding_all rfl) | with_reducible refine Ev.g_rgb_to_hls (by assumption) (by assumption) (by with_unfolding_all rfl) ⟨clb_hls (by assumption), ?_⟩ | with_reducible refine Ar.cons ?_ (by with_unfolding_all rfl) | with_reducible refine Ar.nil ?_))
    refine hls_spec (F'.le (by decide)) ok fun a4 sat ha4 => ?_
    rw [eh, elt, hlg]
    refine ⟨a4, _, rfl, .inl (NM.put_same _ _ _), rfl, ?_⟩
    show Sn _ _ _ _ (Str.ofString "hue") _ _ _ _
    (repeat (first | with_reducible refine Sn.nm (by assumption) (by with_unfolding_all rfl) ?_))
    show Sn _ _ _ _ (Str.ofString "light") _ _ _ _
    (repeat (first | with_reducible refine Sn.nm (by assumption) (by with_unfolding_all rfl) ?_))
    show Sn _ _ _ _ (Str.ofString "rest") _ _ _ _
    (repeat (first | with_reducible refine Sn.nm (by assumption) (by with_unfolding_all rfl) ?_))
    show Es _ _ _ _ _ _ _ _ _ _ _
    (repeat (first | with_reducible refine Ev.nm (by assumption) (by with_unfolding_all rfl) (by repeat (first | with_reducible assumption | with_reducible exact LM.put_same _ _ _ | with_reducible refine (LM.put_ne (by decide)).trans ?_ | with_unfolding_all rfl)) ?_ | with_reducible refine Ev.call ?_ (by with_unfolding_all rfl) (by with_unfolding_all rfl) (by with_unfolding_all rfl) | with_reducible refine Ev.tuple ?_ | with_reducible refine Ev.g_heappush (by assumption) (by assumption) (by with_unfolding_all rfl) ⟨clb_heappush (by assumption), ?_⟩ | with_reducible refine Es.cons ?_ | with_reducible refine Ar.cons ?_ (by with_unfolding_all rfl) | with_reducible refine Ar.nil ?_ | with_reducible refine Ex.expr ?_ (FE.inter (by assumption)) (by with_unfolding_all rfl)))
    refine ⟨by simp, fun x hx => ?_⟩
    have kx : lg * 64 + p < 4096 := by lia
    have hky : ∀ y ∈ l, Ky c' (((N8.put a3 (.tup [.flt cr, .flt cg, .flt cb])).put a4 (.tup [.flt (fl p), .flt (fl lg), .flt sat])).put x (.tup [.flt (fl lg), .flt (fl p)])) y := fun y hy => (((((ky2 y hy).new ha3).new ha4).new hx).ext X.F)
    have hkx : Ky c' (((N8.put a3 (.tup [.flt cr, .flt cg, .flt cb])).put a4 (.tup [.flt (fl p), .flt (fl lg), .flt sat])).put x (.tup [.flt (fl lg), .flt (fl p)])) (x, 64 * lg + p) := by
      refine ⟨by show 64 * lg + p < 4096; lia, .inl ?_⟩
      show _ = some (AO.tup [.flt (fl ((64 * lg + p) / 64)), .flt (fl ((64 * lg + p) % 64))])
      rw [show (64 * lg + p) / 64 = lg by lia, show (64 * lg + p) % 64 = p by lia]
      exact NM.put_same _ _ _
    have ht3 := NM.keep (x := .tup [.flt (fl lg), .flt (fl p)]) hx (NM.keep (x := .tup [.flt (fl p), .flt (fl lg), .flt sat]) ha4 (NM.keep (x := .tup [.flt cr, .flt cg, .flt cb]) ha3 t3))
    have lk : l.length = ps.length := by
      have := pm.length_eq
      rw [List.length_map] at this
      rw [this]; unfold keysOf; rw [List.length_zipWith, ll]; lia
    (repeat (first | with_reducible refine Ar.nil ?_))
    refine push_spec (x := (x, 64 * lg + p)) F' ht3 hky hkx (by lia) ⟨rfl, ?_⟩
    (repeat (first | with_reducible refine Es.nil ?_))
    obtain ⟨hh1, hh2⟩ := push_heap (x := (x, 64 * lg + p)) hhp
    have hx9 := NM.put_same ((N8.put a3 (.tup [.flt cr, .flt cg, .flt cb])).put a4 (.tup [.flt (fl p), .flt (fl lg), .flt sat])) x (.tup [.flt (fl lg), .flt (fl p)])
    have keep4 : ∀ a o, N8 a = some o → (((N8.put a3 (.tup [.flt cr, .flt cg, .flt cb])).put a4 (.tup [.flt (fl p), .flt (fl lg), .flt sat])).put x (.tup [.flt (fl lg), .flt (fl p)])) a = some o := fun a o e => NM.keep hx (NM.keep ha4 (NM.keep ha3 e))
    generalize ((N8.put a3 (.tup [.flt cr, .flt cg, .flt cb])).put a4 (.tup [.flt (fl p), .flt (fl lg), .flt sat])).put x (.tup [.flt (fl lg), .flt (fl p)]) = N9 at hky hkx ht3 keep4 hx9
    refine ⟨ps ++ [p], ls ++ [lg], rs ++ [r], sd (x, 64 * lg + p) (l ++ [(x, 64 * lg + p)]) l.length, by simp, ?_⟩
    refine ⟨by simp [rl], by simp [ll], ?_, ?_, ?_, ?_, ?_, ?_, ?_, ?_, ?_, ?_, NM.put_same _ _ _, hh1, ?_, ?_, ?_⟩
    · rw [List.nodup_append]
      exact ⟨nd, by simp, fun y hy z hz e => by rw [List.mem_singleton.mp hz] at e; exact hpp (e ▸ hy)⟩
    · intro y hy
      rcases List.mem_append.mp hy with h | h
      · exact p64 y h
      · rw [List.mem_singleton.mp h]; exact hp64
    · intro y hy
      rcases List.mem_append.mp hy with h | h
      · exact l64 y h
      · rw [List.mem_singleton.mp h]; exact hlight
    · intro i hi
      refine hideG fun G9 kG9 => ?_
      obtain ⟨x1, x2, x3, x4⟩ := inn2 i hi
      refine kG9 ?_
      clear kG9
      exact ⟨x1, x2, x3, (NM.put_ne x3).trans (keep4 _ _ x4)⟩
    · (repeat (first | with_reducible assumption | with_reducible exact LM.put_same _ _ _ | with_reducible refine (LM.put_ne (by decide)).trans ?_))
    · (repeat (first | with_reducible assumption | with_reducible exact LM.put_same _ _ _ | with_reducible refine (LM.put_ne (by decide)).trans ?_))
    · (repeat (first | with_reducible assumption | with_reducible exact LM.put_same _ _ _ | with_reducible refine (LM.put_ne (by decide)).trans ?_))
    · (repeat (first | with_reducible assumption | with_reducible exact LM.put_same _ _ _ | with_reducible refine (LM.put_ne (by decide)).trans ?_))
    · exact (NM.put_ne h13).trans (keep4 _ _ t1)
    · exact (NM.put_ne h23).trans (keep4 _ _ t2)
    · refine (hh2.map (·.2)).trans ?_
      rw [List.map_append]
      unfold keysOf
      rw [List.zipWith_append ll.symm]
      exact pm.append_right _
    · intro y hy
      rcases List.mem_append.mp (hh2.mem_iff.mp hy) with h | h
      · exact ⟨(hky y h).1, ((ky2 y h).2.imp (fun e => (keep4 _ _ e)) id).elim (fun e => (Rd.of e).put ht3 (by simp)) .inr⟩
      · rw [List.mem_singleton.mp h]
        refine ⟨hkx.1, Rd.put (.inl ?_) ht3 (by simp)⟩
        show N9 x = some (AO.tup [.flt (fl ((64 * lg + p) / 64)), .flt (fl ((64 * lg + p) % 64))])
        rw [show (64 * lg + p) / 64 = lg by lia, show (64 * lg + p) % 64 = p by lia]
        exact hx9
    · exact NL.upd (fun a o e k => keep4 a o (nl2 a o e k)) ht3
  · intro m5 N5 I9
    refine hideG fun G9 kG9 => ?_
    obtain ⟨ps, ls, rs, l, hl, I⟩ := I9
    refine kG9 ?_
    clear kG9
    exact fin ps ls rs l m5 N5 hl I
  · intro _; with_unfolding_all rfl
end
end Mine
end PartA2
section PartA3
open PySem PySem.W PyProof.Rows
set_option linter.unusedVariables false
set_option maxRecDepth 100000
namespace Mine
/- all stands but these -/
noncomputable def KE (ex : List Addr) (N N' : NM) : Prop := ∀ a o, N a = some o → a ∉ ex → N' a = some o
theorem KE.refl (ex : List Addr) (N : NM) : KE ex N N := fun _ _ e _ => e
theorem KE.new {ex : List Addr} {N N' : NM} {b : Addr} {x : AO} (h : KE ex N N') (hb : N' b = none) : KE ex N (N'.put b x) := fun a o e k => NM.keep hb (h a o e k)
theorem KE.upd {ex : List Addr} {N N' : NM} {b : Addr} {x : AO} (h : KE ex N N') (hb : b ∈ ex) : KE ex N (N'.put b x) := fun a o e k => (NM.put_ne fun q => k (by rw [q]; exact hb)).trans (h a o e k)
theorem Ky.putD {c : Cx} {N : NM} {x : It} {b : Addr} {es : List (Str × V)} {o : AO} (h : Ky c N x) (hb : N b = some (.dict es)) : Ky c (N.put b o) x := ⟨h.1, h.2.put hb (by simp)⟩
/- after k turns of the second loop -/
structure I2 (c : Cx) (N0 : NM) (sp hp td : Addr) (A : List Nat) (ks : List Nat) (l : List It) (m : LM) (N : NM) : Prop where
  m3 : m (Str.ofString "spots") = some (.ref sp)
  m4 : m (Str.ofString "heap") = some (.ref hp)
  n3 : N hp = some (.list (l.map rf))
  nt : N td = some (.dict (tr (ks.map (· % 64))))
  hh : IsHeap l
  pm : (ks ++ l.map (·.2)).Perm A
  pw : ks.Pairwise (· < ·)
  le : ∀ a ∈ ks, ∀ x ∈ l, a < x.2
  ky : ∀ x ∈ l, Ky c N x
  ke : KE [hp, td] N0 N
theorem abc_get {i : Nat} (h : i < 6) : ([97, 98, 99, 100, 101, 102] : List Nat)[i]? = some (lt i false) := by
  rcases (by lia : i = 0 ∨ i = 1 ∨ i = 2 ∨ i = 3 ∨ i = 4 ∨ i = 5) with rfl | rfl | rfl | rfl | rfl | rfl <;> rfl
theorem ABC_get {i : Nat} (h : i < 6) : ([65, 66, 67, 68, 69, 70] : List Nat)[i]? = some (lt i true) := by
  rcases (by lia : i = 0 ∨ i = 1 ∨ i = 2 ∨ i = 3 ∨ i = 4 ∨ i = 5) with rfl | rfl | rfl | rfl | rfl | rfl <;> rfl
theorem str_nil : Str.ofString "" = sx [] := by decide
theorem str_abc : Str.ofString "abcdef" = sx [97, 98, 99, 100, 101, 102] := by decide
theorem str_ABC : Str.ofString "ABCDEF" = sx [65, 66, 67, 68, 69, 70] := by decide
section
variable {prog : Program} {w : World} {c : Cx} {env : Env} {m : LM} {N : NM} {Pn Pb Pc : LM → NM → Prop} {Pr : V → LM → NM → Prop} {P : V → LM → NM → Prop}
theorem loop2 {sp hp td aC aT : Addr} {n : Nat} {A : List Nat} {l0 : List It} (E : FE env c lawSc) (hC : env.cells.lookup (Str.ofString "count") = some aC) (hT : env.cells.lookup (Str.ofString "tree") = some aT) (F : Fit w c 3) (hn : n ≤ 7)
    (hA : A.length = n) (hAn : (A.map (· % 64)).Nodup) (htd : td ≠ sysModules) (hht : hp ≠ td)
    (m3 : m (Str.ofString "spots") = some (.ref sp)) (m4 : m (Str.ofString "heap") = some (.ref hp))
    (n3 : N hp = some (.list (l0.map rf))) (hh : IsHeap l0) (hpm : (l0.map (·.2)).Perm A) (hky : ∀ x ∈ l0, Ky c N x)
    (nt : N td = some (.dict [])) (nC : N aC = some (.cell (some (.int n)))) (nT : N aT = some (.cell (some (.ref td))))
    (fin : ∀ ks l m' N', ks.length = n → I2 c N sp hp td A ks l m' N' → Pn m' N') : Ex prog w c env (lawS 6) m N Pn Pb Pc Pr := by
  have hB := F.B
  have hCe : aC ∉ [hp, td] := fun q => by
    rcases List.mem_cons.mp q with e | q
    · rw [e, n3] at nC; cases nC
    · rw [List.mem_singleton.mp q, nt] at nC; cases nC
  have hTe : aT ∉ [hp, td] := fun q => by
    rcases List.mem_cons.mp q with e | q
    · rw [e, n3] at nT; cases nT
    · rw [List.mem_singleton.mp q, nt] at nT; cases nT
  refine Ex.forRange n 0 (fun k m' N' => ∃ ks l, ks.length = k ∧ I2 c N sp hp td A ks l m' N') F.h E.L E.kind (isLoc_k E (by with_unfolding_all rfl)) ?_ ?_ ?_ ?_
  · (repeat (first | with_reducible refine Ev.call ?_ (by with_unfolding_all rfl) (by with_unfolding_all rfl) (by with_unfolding_all rfl) | with_reducible refine Ev.b_range (by assumption) (by assumption) (by with_unfolding_all rfl) ⟨clb_ty, ?_⟩ | with_reducible refine Ar.cons ?_ (by with_unfolding_all rfl)))
    refine Ev.ce E (by with_unfolding_all rfl) hC (.inl nC) ?_
    (repeat (first | with_reducible refine Ar.nil ?_))
    refine Ca.range1 fun ra hra => ?_
    refine ⟨ra, _, rfl, NM.put_same _ _ _, by exact Int.natCast_nonneg _, by exact Int.natCast_nonneg _, by exact Int.natCast_nonneg _, by lia, by lia, [], l0, rfl, ?_⟩
    exact ⟨m3, m4, NM.keep hra n3, NM.keep hra nt, hh, by simpa using hpm, .nil, fun a ha => by simp at ha, fun x hx => (hky x hx).new hra, (KE.refl _ N).new hra⟩
  · intro c' k m5 N5 X hk I9
    refine hideG fun G9 kG9 => ?_
    obtain ⟨ks, l, rfl, ⟨q3, q4, r3, rt, hhp, pm, pw, le, ky, ke⟩⟩ := I9
    refine kG9 ?_
    clear kG9
    have E' := E.ext X
    have F' := F.ext X
    have hB' := F'.B
    have rT := ke _ _ nT hTe
    have ll : l.length = n - ks.length := by
      have := pm.length_eq
      rw [List.length_append, List.length_map, hA] at this; lia
    obtain ⟨l', x, rfl⟩ : ∃ l' x, l = l' ++ [x] := ⟨l.dropLast, l.getLast (fun e => by rw [e] at ll; simp at ll; lia), (List.dropLast_concat_getLast _).symm⟩
    rw [List.length_append, List.length_singleton] at ll
    obtain ⟨hh1, hh2, hh3⟩ := pop_heap hhp
    generalize hy : popV l' x = y at hh2 hh3
    generalize hl' : popL l' x = l2 at hh1 hh2
    have hym : y ∈ l' ++ [x] := hh2.mem_iff.mp (List.mem_cons_self)
    have hkyy := ky y hym
    refine Es.cons ?_
    refine Ex.unpack [(Str.ofString "light", ⟨151, 8, 151, 13⟩), (Str.ofString "hue", ⟨151, 15, 151, 18⟩)] F'.h ?_ (by with_unfolding_all rfl) (by with_unfolding_all rfl) (by with_unfolding_all rfl) (by with_unfolding_all rfl)
    (repeat (first | with_reducible refine Ev.nm (by assumption) (by with_unfolding_all rfl) (by repeat (first | with_reducible assumption | with_reducible exact LM.put_same _ _ _ | with_reducible refine (LM.put_ne (by decide)).trans ?_ | with_unfolding_all rfl)) ?_ | with_reducible refine Ev.call ?_ (by with_unfolding_all rfl) (by with_unfolding_all rfl) (by with_unfolding_all rfl) | with_reducible refine Ev.g_heappop (by assumption) (by assumption) (by with_unfolding_all rfl) ⟨clb_heappop (by assumption), ?_⟩ | with_reducible refine Ar.cons ?_ (by with_unfolding_all rfl) | with_reducible refine Ar.nil ?_))
    refine pop_spec (l := l') (x := x) F' r3 (fun z hz => (ky z hz).ext X.F) (by lia) ?_
    rw [hy, hl']
    refine ⟨y.1, _, rfl, ((hkyy.put r3).ext X.F).2, rfl, ?_⟩
    have hy64 : y.2 < 4096 := hkyy.1
    generalize hxp : y.2 % 64 = p
    have hp64 : p < 64 := by lia
    show Sn _ _ _ _ (Str.ofString "light") _ _ _ _
    (repeat (first | with_reducible refine Sn.nm (by assumption) (by with_unfolding_all rfl) ?_))
    show Sn _ _ _ _ (Str.ofString "hue") _ _ _ _
    (repeat (first | with_reducible refine Sn.nm (by assumption) (by with_unfolding_all rfl) ?_))
    show Es _ _ _ _ _ _ _ _ _ _ _
    (repeat (first | with_reducible refine Ev.str ?_ | with_reducible refine Es.cons ?_ | with_reducible refine Sn.nm (by assumption) (by with_unfolding_all rfl) ?_ | with_reducible refine Ex.assign ?_ (by with_unfolding_all rfl)))
    rw [str_nil]
    skip
    have g1 : (N5.put hp (.list (l2.map rf))) td = some (.dict (tr (ks.map (· % 64)))) := (NM.put_ne (Ne.symm hht)).trans rt
    have g2 : (N5.put hp (.list (l2.map rf))) aT = some (.cell (some (.ref td))) := (NM.put_ne fun q => hTe (by rw [q]; simp)).trans rT
    have g3 : (N5.put hp (.list (l2.map rf))) hp = some (.list (l2.map rf)) := NM.put_same _ _ _
    have gky : ∀ z ∈ l2, Ky c (N5.put hp (.list (l2.map rf))) z := fun z hz => (ky z (hh2.mem_iff.mp (List.mem_cons_of_mem _ hz))).put r3
    have gke : KE [hp, td] N (N5.put hp (.list (l2.map rf))) := ke.upd (by simp)
    -- the places so far
    have perm2 : (ks ++ [y.2] ++ l2.map (·.2)).Perm A := by
      refine List.Perm.trans ?_ pm
      rw [List.append_assoc]
      refine List.Perm.append_left _ ?_
      exact hh2.map (·.2)
    have nd2 : ((ks.map (· % 64)) ++ [p] ++ l2.map fun z : It => z.2 % 64).Nodup := by
      have := (perm2.map (· % 64)).nodup_iff.mpr hAn
      rw [List.map_append, List.map_append, List.map_map] at this
      simpa [hxp, Function.comp_def] using this
    have hnd : (ks.map (· % 64)).Nodup := (List.nodup_append.mp (List.nodup_append.mp nd2).1).1
    have hpn : p ∉ ks.map (· % 64) := fun h => (List.nodup_append.mp (List.nodup_append.mp nd2).1).2.2 p h p (List.mem_singleton.mpr rfl) rfl
    have hts6 : (ks.map (· % 64)).length ≤ 6 := by rw [List.length_map]; lia
    have hts64 : ∀ t ∈ ks.map (· % 64), t < 64 := fun t ht => by obtain ⟨z, _, rfl⟩ := List.mem_map.mp ht; lia
    generalize hts : ks.map (· % 64) = ts at g1 hnd hpn hts6 hts64 nd2
    generalize N5.put hp (.list (l2.map rf)) = N6 at g1 g2 g3 gky gke
    refine Ex.cut (fun _ _ m' N' => N' = N6 ∧ m' (Str.ofString "way") = some (.str (sx (wd 0 (wpath ts p)))) ∧ m' (Str.ofString "hue") = some (.flt (fl p)) ∧ m' (Str.ofString "spots") = some (.ref sp) ∧ m' (Str.ofString "heap") = some (.ref hp)) ?_ ?_
    · refine Ex.while ?_
      refine (?_ : ∀ (k a : Nat) (m : LM), ts.length - a = k → a ≤ ts.length → m (Str.ofString "way") = some (.str (sx (wd 0 (wpath (ts.take a) p)))) → m (Str.ofString "hue") = some (.flt (fl p)) → m (Str.ofString "spots") = some (.ref sp) → m (Str.ofString "heap") = some (.ref hp) →
        Wh prog w c' env _ _ m N6 _ _) _ 0 _ rfl (Nat.zero_le _) ?_ ?_ ?_ ?_
      rotate_left
      · exact LM.put_same _ _ _
      · (repeat (first | with_reducible assumption | with_reducible exact LM.put_same _ _ _ | with_reducible refine (LM.put_ne (by decide)).trans ?_))
      · (repeat (first | with_reducible assumption | with_reducible exact LM.put_same _ _ _ | with_reducible refine (LM.put_ne (by decide)).trans ?_))
      · (repeat (first | with_reducible assumption | with_reducible exact LM.put_same _ _ _ | with_reducible refine (LM.put_ne (by decide)).trans ?_))
      intro k
      induction k using Nat.strongRecOn with
      | ind k ih =>
        intro a m hk' ha w1 w2 w3 w4
        refine Wh.turn ?_
        (repeat (first | with_reducible refine Ev.nm (by assumption) (by with_unfolding_all rfl) (by repeat (first | with_reducible assumption | with_reducible exact LM.put_same _ _ _ | with_reducible refine (LM.put_ne (by decide)).trans ?_ | with_unfolding_all rfl)) ?_ | with_reducible refine Te.cmp ?_ (by with_unfolding_all rfl)))
        refine Ev.ce E' (by with_unfolding_all rfl) hT (.inl g2) ?_
        refine Cp.inD htd (.inl g1) ?_
        (repeat (first | with_reducible refine Tu.bool ?_))
        rcases walk_step hnd hts6 hpn ha with ⟨b, b1, b2, b3, b4, b5⟩ | ⟨b1, b2, b3⟩
        · rw [b4]
          refine ⟨fun _ => ?_, nofun⟩
          refine Es.cons ?_
          refine Ex.if ?_
          (repeat (first | with_reducible refine Ev.nm (by assumption) (by with_unfolding_all rfl) (by repeat (first | with_reducible assumption | with_reducible exact LM.put_same _ _ _ | with_reducible refine (LM.put_ne (by decide)).trans ?_ | with_unfolding_all rfl)) ?_ | with_reducible refine Ev.sub ?_ | with_reducible refine Te.cmp ?_ (by with_unfolding_all rfl)))
          refine Ev.ce E' (by with_unfolding_all rfl) hT (.inl g2) ?_
          (repeat (first | with_reducible refine Ev.nm (by assumption) (by with_unfolding_all rfl) (by repeat (first | with_reducible assumption | with_reducible exact LM.put_same _ _ _ | with_reducible refine (LM.put_ne (by decide)).trans ?_ | with_unfolding_all rfl)) ?_))
          refine Sb.dict (.inl g1) b3 ?_ (by with_unfolding_all rfl)
          (repeat (first | with_reducible refine Cp.ltF ?_ | with_reducible refine Tu.bool ?_))
          have ht64 : ts.getD b 0 < 64 := by
            rw [List.getD_eq_getElem?_getD, List.getElem?_eq_getElem b2]; exact hts64 _ (List.getElem_mem _)
          have htp : ts.getD b 0 ≠ p := fun q => hpn (by
            rw [← q, List.getD_eq_getElem?_getD, List.getElem?_eq_getElem b2]; exact List.getElem_mem _)
          have hL : (wpath (ts.take a) p).length ≤ a := by
            have := sdF_len [] (ts.take a) p
            rw [List.length_take] at this
            exact Nat.le_trans this (by lia)
          rw [fl_lt (by exact Nat.le_of_lt (by assumption)) (by exact Nat.le_of_lt (by assumption))]
          refine ⟨fun q => ?_, fun q => ?_⟩
          · have q : p < ts.getD b 0 := of_decide_eq_true q
            (repeat (first | with_reducible refine Ev.nm (by assumption) (by with_unfolding_all rfl) (by repeat (first | with_reducible assumption | with_reducible exact LM.put_same _ _ _ | with_reducible refine (LM.put_ne (by decide)).trans ?_ | with_unfolding_all rfl)) ?_ | with_reducible refine Ev.bin ?_ | with_reducible refine Ev.sub ?_ | with_reducible refine Ev.call ?_ (by with_unfolding_all rfl) (by with_unfolding_all rfl) (by with_unfolding_all rfl) | with_reducible refine Ev.str ?_ | with_reducible refine Ev.b_len (by assumption) (by assumption) (by with_unfolding_all rfl) ⟨clb_bi, ?_⟩ | with_reducible refine Es.cons ?_ | with_reducible refine Ar.cons ?_ (by with_unfolding_all rfl) | with_reducible refine Ar.nil ?_ | with_reducible refine Ex.assign ?_ (by with_unfolding_all rfl)))
            refine Ca.lenS (by rw [wd_len]; lia) ?_
            rw [wd_len, str_abc]
            refine Ev.strItem (ch := lt (wpath (ts.take a) p).length false) (by exact Int.natCast_nonneg _) (by lia) ?_ ?_ (by with_unfolding_all rfl)
            · rw [seqI (by simp; lia)]; exact abc_get (by lia)
            refine Bi.addS (by rw [wd_len]; simp; lia) ?_
            have e1 : wd 0 (wpath (ts.take a) p) ++ [lt (wpath (ts.take a) p).length false] = wd 0 (wpath (ts.take (b + 1)) p) := by
              rw [b5, show decide (ts.getD b 0 < p) = false from by rw [decide_eq_false]; lia, wd_append]; simp [wd]
            rw [e1]
            (repeat (first | with_reducible refine Es.nil ?_ | with_reducible refine Sn.nm (by assumption) (by with_unfolding_all rfl) ?_))
            refine ih (ts.length - (b + 1)) (by lia) (b + 1) _ rfl (by lia) (LM.put_same _ _ _) ?_ ?_ ?_
            · (repeat (first | with_reducible assumption | with_reducible exact LM.put_same _ _ _ | with_reducible refine (LM.put_ne (by decide)).trans ?_))
            · (repeat (first | with_reducible assumption | with_reducible exact LM.put_same _ _ _ | with_reducible refine (LM.put_ne (by decide)).trans ?_))
            · (repeat (first | with_reducible assumption | with_reducible exact LM.put_same _ _ _ | with_reducible refine (LM.put_ne (by decide)).trans ?_))
          · have q : ¬ p < ts.getD b 0 := of_decide_eq_false q
            (repeat (first | with_reducible refine Ev.nm (by assumption) (by with_unfolding_all rfl) (by repeat (first | with_reducible assumption | with_reducible exact LM.put_same _ _ _ | with_reducible refine (LM.put_ne (by decide)).trans ?_ | with_unfolding_all rfl)) ?_ | with_reducible refine Ev.bin ?_ | with_reducible refine Ev.sub ?_ | with_reducible refine Ev.call ?_ (by with_unfolding_all rfl) (by with_unfolding_all rfl) (by with_unfolding_all rfl) | with_reducible refine Ev.str ?_ | with_reducible refine Ev.b_len (by assumption) (by assumption) (by with_unfolding_all rfl) ⟨clb_bi, ?_⟩ | with_reducible refine Es.cons ?_ | with_reducible refine Ar.cons ?_ (by with_unfolding_all rfl) | with_reducible refine Ar.nil ?_ | with_reducible refine Ex.assign ?_ (by with_unfolding_all rfl)))
            refine Ca.lenS (by rw [wd_len]; lia) ?_
            rw [wd_len, str_ABC]
            refine Ev.strItem (ch := lt (wpath (ts.take a) p).length true) (by lia) (by lia) ?_ ?_ (by with_unfolding_all rfl)
            · rw [seqI (by simp; lia)]; exact ABC_get (by lia)
            refine Bi.addS (by rw [wd_len]; simp; lia) ?_
            have e1 : wd 0 (wpath (ts.take a) p) ++ [lt (wpath (ts.take a) p).length true] = wd 0 (wpath (ts.take (b + 1)) p) := by
              rw [b5, show decide (ts.getD b 0 < p) = true from by rw [decide_eq_true]; lia, wd_append]; simp [wd]
            rw [e1]
            (repeat (first | with_reducible refine Es.nil ?_ | with_reducible refine Sn.nm (by assumption) (by with_unfolding_all rfl) ?_))
            refine ih (ts.length - (b + 1)) (by lia) (b + 1) _ rfl (by lia) (LM.put_same _ _ _) ?_ ?_ ?_
            · (repeat (first | with_reducible assumption | with_reducible exact LM.put_same _ _ _ | with_reducible refine (LM.put_ne (by decide)).trans ?_))
            · (repeat (first | with_reducible assumption | with_reducible exact LM.put_same _ _ _ | with_reducible refine (LM.put_ne (by decide)).trans ?_))
            · (repeat (first | with_reducible assumption | with_reducible exact LM.put_same _ _ _ | with_reducible refine (LM.put_ne (by decide)).trans ?_))
        · rw [b1]
          refine ⟨nofun, fun _ => ?_⟩
          exact ⟨rfl, b3 ▸ w1, w2, w3, w4⟩
    intro m7 N7 I9
    refine hideG fun G9 kG9 => ?_
    obtain ⟨rfl, w1, w2, w3, w4⟩ := I9
    refine kG9 ?_
    clear kG9
    (repeat (first | with_reducible refine Es.cons ?_))
    refine Ex.setKey ?_ (by with_unfolding_all rfl)
    (repeat (first | with_reducible refine Ev.nm (by assumption) (by with_unfolding_all rfl) (by repeat (first | with_reducible assumption | with_reducible exact LM.put_same _ _ _ | with_reducible refine (LM.put_ne (by decide)).trans ?_ | with_unfolding_all rfl)) ?_))
    refine Ev.ce E' (by with_unfolding_all rfl) hT (.inl g2) ?_
    (repeat (first | with_reducible refine Ev.nm (by assumption) (by with_unfolding_all rfl) (by repeat (first | with_reducible assumption | with_reducible exact LM.put_same _ _ _ | with_reducible refine (LM.put_ne (by decide)).trans ?_ | with_unfolding_all rfl)) ?_))
    refine ⟨td, _, _, rfl, rfl, g1, fun e he q => ?_, by rw [tr_len]; lia, ?_⟩
    · rcases walk_step hnd hts6 hpn (a := ts.length) (Nat.le_refl _) with ⟨b, b1, b2, _⟩ | ⟨_, b2, b3⟩
      · lia
      · rw [b3] at b2; exact b2 e he q
    rw [← tr_snoc]
    (repeat (first | with_reducible refine Es.nil ?_))
    refine ⟨ks ++ [y.2], l2, by simp, w3, w4, ?_, ?_, hh1, perm2, ?_, ?_, ?_, ?_⟩
    · exact (NM.put_ne hht).trans g3
    · rw [List.map_append, hts, List.map_singleton, hxp]; exact NM.put_same _ _ _
    · rw [List.pairwise_append]
      exact ⟨pw, by simp, fun a ha b hb => by rw [List.mem_singleton.mp hb]; exact le a ha y hym⟩
    · intro a ha z hz
      have hz' := hh2.mem_iff.mp (List.mem_cons_of_mem _ hz)
      rcases List.mem_append.mp ha with h | h
      · exact le a h z hz'
      · rw [List.mem_singleton.mp h]
        have h1 := hh3 z hz'
        refine Nat.lt_of_le_of_ne h1 fun q => ?_
        have := (List.nodup_append.mp nd2).2.2 p (by simp) (z.2 % 64) (List.mem_map.mpr ⟨z, hz, rfl⟩)
        rw [← q] at this
        exact this hxp.symm
    · exact fun z hz => (gky z hz).putD g1
    · exact gke.upd (by simp)
  · intro m5 N5 I9
    refine hideG fun G9 kG9 => ?_
    obtain ⟨ks, l, hl, I⟩ := I9
    refine kG9 ?_
    clear kG9
    exact fin ks l m5 N5 hl I
  · intro _; with_unfolding_all rfl
end
end Mine
end PartA3
section PartA4
open PySem PySem.W PyProof.Rows
set_option linter.unusedVariables false
set_option maxRecDepth 100000
namespace Mine
theorem cmpFS {a b : UInt64} {s t : Str} (h : (Float64.cmp a a == some .eq) = true) : CmpL [.flt a, .str s] [.flt b, .str t] := ⟨h, fun _ => ⟨trivial, fun _ => trivial⟩⟩
theorem vEq_str (s t : Str) : vEq (.str s) (.str t) = (s == t) := rfl
theorem lexFS {i j : Nat} {s t : Str} (hi : i ≤ 64) (hj : j ≤ 64) (hs : i = j → s = t) : lexL [.flt (fl i), .str s] [.flt (fl j), .str t] = decide (i < j) := by
  rw [lexL2, vEq_fl hi hj, vLt_fl hi hj]
  by_cases h : i = j
  · rw [if_pos (decide_eq_true h), vEq_str, hs h]
    simp [h]
  · rw [if_neg (by simpa using h)]
theorem getD_inj {ts : List Nat} (hnd : ts.Nodup) {i j : Nat} (hi : i < ts.length) (hj : j < ts.length) (e : ts.getD i 0 = ts.getD j 0) : i = j := by
  rw [List.getD_eq_getElem?_getD, List.getD_eq_getElem?_getD, List.getElem?_eq_getElem hi, List.getElem?_eq_getElem hj] at e
  exact (List.getElem_inj hnd).mp e
section
variable {prog : Program} {w : World} {c : Cx} {env : Env} {m : LM} {N : NM} {Pn Pb Pc : LM → NM → Prop} {Pr : V → LM → NM → Prop} {P : V → LM → NM → Prop}
theorem st7 {td aT : Addr} {ts : List Nat} (E : FE env c lawSc) (hT : env.cells.lookup (Str.ofString "tree") = some aT) (F : Fit w c 2) (hnd : ts.Nodup) (h64 : ∀ t ∈ ts, t < 64) (h2 : 2 ≤ ts.length) (h7 : ts.length ≤ 7) (htd : td ≠ sysModules)
    (hF : c.F td = some (.dict (tr ts))) (nT : N aT = some (.cell (some (.ref td))))
    (fin : ∀ h (es : Nat → Addr) (sg : List Nat) N', sg.Perm (List.range ts.length) → sg.Pairwise (fun i j => ts.getD i 0 < ts.getD j 0) → (∀ a o, N a = some o → N' a = some o) → N h = none → N' h = some (.list (sg.map fun i => V.ref (es i))) →
      (∀ i, i < ts.length → N' (es i) = some (.list [.flt (fl (ts.getD i 0)), .str (sx (wd 0 (wpath (ts.take i) (ts.getD i 0))))])) → Pn (m.put (Str.ofString "hung") (.ref h)) N') : Ex prog w c env (lawS 7) m N Pn Pb Pc Pr := by
  have hB := F.B
  have hlt : ∀ i, i < ts.length → ts.getD i 0 < 64 := fun i hi => h64 _ (by rw [List.getD_eq_getElem?_getD, List.getElem?_eq_getElem hi]; exact List.getElem_mem _)
  refine Ex.assign ?_ (by with_unfolding_all rfl)
  (repeat (first | with_reducible refine Ev.call ?_ (by with_unfolding_all rfl) (by with_unfolding_all rfl) (by with_unfolding_all rfl) | with_reducible refine Ev.b_sorted (by assumption) (by assumption) (by with_unfolding_all rfl) ⟨clb_bi, ?_⟩ | with_reducible refine Ar.cons ?_ (by with_unfolding_all rfl)))
  refine Ev.comp (n := (tr ts).length) (names := [Str.ofString "way"]) (dss := fun i => [.str ((tr ts).getD i (⟨#[]⟩, .none)).1]) [(Str.ofString "tree", aT)] Option.none (fun _ i acc N' => ∃ es : List Addr, es.length = i ∧ acc = es.map V.ref ∧ (∀ a o, N a = some o → N' a = some o) ∧
      ∀ j, j < i → N' (es.getD j 0) = some (.list [.flt (fl (ts.getD j 0)), .str (sx (wd 0 (wpath (ts.take j) (ts.getD j 0))))])) E ?_ rfl ?_ ?_ ?_ ?_ ?_ ?_ ?_
  · have k1 : (NameKind.local == NameKind.free) = false := by decide
    have k2 : (NameKind.free == NameKind.free) = true := by decide
    simp [closureFor, cellOf_eq hT, k1, k2]
  · decide
  · intro _; with_unfolding_all rfl
  · intro _; with_unfolding_all rfl
  · intro _; with_unfolding_all rfl
  · rw [tr_len]; exact Nat.le_trans (by assumption) (by decide)
  · refine Src.dict F.h ?_
    refine Ev.ce E (by with_unfolding_all rfl) hT (.inl nT) ?_
    refine ⟨td, rfl, htd, hF, fun C _ _ => ⟨[], rfl, rfl, fun _ _ e => e, fun j hj => by (exfalso; lia)⟩, ?_⟩
    intro C D acc N' I9 hD hacc
    refine hideG fun G9 kG9 => ?_
    obtain ⟨es, hes, rfl, sub, hel⟩ := I9
    refine kG9 ?_
    clear kG9
    rw [tr_len] at hes hel
    have key : ∀ i, i < es.length → es[i]? = some (es.getD i 0) := fun i hi => by rw [List.getD_eq_getElem?_getD, List.getElem?_eq_getElem hi]; rfl
    (repeat (first | with_reducible refine Ar.nil ?_))
    refine Ca.sorted (rs := es) (cs := fun i => [.flt (fl (ts.getD i 0)), .str (sx (wd 0 (wpath (ts.take i) (ts.getD i 0))))]) (key := fun i => ts.getD i 0) (F.le (by decide)) (.inl (NM.put_same _ _ _)) (fun i r hr => ?_) (fun _ _ _ _ => len2 _ _ _ _) (fun i j hi hj => cmpFS (fl_refl (by have := hlt i (by lia); exact Nat.le_of_lt (by assumption))))
      (fun i j hi hj => lexFS (by have := hlt i (by lia); exact Nat.le_of_lt (by assumption)) (by have := hlt j (by lia); exact Nat.le_of_lt (by assumption)) fun e => ?_) (fun i j hi hj e => ?_) (by lia) (by lia) fun b hb p hp hpw => ?_
    · have hi : i < es.length := (List.getElem?_eq_some_iff.mp hr).1
      rw [key i hi] at hr
      rw [← Option.some.inj hr]
      exact .inl (NM.keep hD (hel i (by lia)))
    · have : i = j := getD_inj hnd (by lia) (by lia) e
      rw [this]
    · exact getD_inj hnd (by lia) (by lia) e
    · (repeat (first | with_reducible refine Sn.nm (by assumption) (by with_unfolding_all rfl) ?_))
      rw [hes] at hp
      refine fin b (fun i => es.getD i 0) p _ hp hpw (fun a o e => NM.keep hb (NM.keep hD (sub a o e))) ?_ (NM.put_same _ _ _) fun i hi => NM.keep hb (NM.keep hD (hel i hi))
      cases e : N b with
      | none => rfl
      | some o => rw [NM.keep hD (sub _ _ e)] at hb; cases hb
  · intro C c' env' i acc N' X E' hcells hi I9
    refine hideG fun G9 kG9 => ?_
    obtain ⟨es, hes, rfl, sub, hel⟩ := I9
    refine kG9 ?_
    clear kG9
    have F' := X.fit F
    have hB' := F'.B
    rw [tr_len] at hi
    have hcl : env'.cells.lookup (Str.ofString "tree") = some aT := by rw [hcells]; with_unfolding_all rfl
    (repeat (first | with_reducible refine SnL.cons ?_ | with_reducible refine SnL.nil ?_ | with_reducible refine Tes.nil ?_ | with_reducible refine Sn.nm (by assumption) (by with_unfolding_all rfl) ?_))
    refine ⟨fun _ => ?_, nofun⟩
    (repeat (first | with_reducible refine Ev.sub ?_ | with_reducible refine Ev.list ?_ | with_reducible refine Ar.cons ?_ (by with_unfolding_all rfl)))
    refine Ev.ce E' (by with_unfolding_all rfl) hcl (.inl (sub _ _ nT)) ?_
    (repeat (first | with_reducible refine Ev.nm (by assumption) (by with_unfolding_all rfl) (by repeat (first | with_reducible assumption | with_reducible exact LM.put_same _ _ _ | with_reducible refine (LM.put_ne (by decide)).trans ?_ | with_unfolding_all rfl)) ?_))
    rw [tr_key hi]
    refine Sb.dict (.inr (X.F _ _ hF)) (tr_get hnd h7 hi) ?_ (by with_unfolding_all rfl)
    (repeat (first | with_reducible refine Ev.nm (by assumption) (by with_unfolding_all rfl) (by repeat (first | with_reducible assumption | with_reducible exact LM.put_same _ _ _ | with_reducible refine (LM.put_ne (by decide)).trans ?_ | with_unfolding_all rfl)) ?_ | with_reducible refine Ar.cons ?_ (by with_unfolding_all rfl) | with_reducible refine Ar.nil ?_))
    refine ⟨by simp, fun r hr => ?_⟩
    refine ⟨es ++ [r], by simp [hes], by simp, fun a o e => NM.keep hr (sub a o e), fun j hj => ?_⟩
    by_cases h : j < i
    · rw [getD_lt (by lia)]
      exact NM.keep hr (hel j h)
    · have e : j = i := by lia
      rw [e, getD_end es r 0 hes]
      exact NM.put_same _ _ _
end
end Mine
end PartA4
section PartA5
open PySem PySem.W PyProof.Rows
set_option linter.unusedVariables false
set_option maxRecDepth 100000
namespace Mine
theorem cmpII {a b a' b' : Int} : CmpL [.int a, .int b] [.int a', .int b'] := ⟨trivial, fun _ => ⟨trivial, fun _ => trivial⟩⟩
theorem lexII {a b a' b' : Nat} (h : a = a' → b = b') : lexL [.int a, .int b] [.int a', .int b'] = decide (a < a') := by
  rw [lexL2]
  show (if ((a : Int) == (a' : Int)) = true then (if ((b : Int) == (b' : Int)) = true then false else decide ((b : Int) < b')) else decide ((a : Int) < a')) = _
  by_cases e : a = a'
  · rw [if_pos (by simp [e]), if_pos (by simp [h e])]
    simp [e]
  · rw [if_neg (by simp only [beq_iff_eq]; lia)]
    exact decide_eq_decide.mpr (by lia)
theorem lexKey {a b a' b' : Nat} (hb : b < 64) (hb' : b' < 64) : lexL [.int a, .int b] [.int a', .int b'] = decide (64 * a + b < 64 * a' + b') := by
  rw [lexL2]
  show (if ((a : Int) == (a' : Int)) = true then (if ((b : Int) == (b' : Int)) = true then false else decide ((b : Int) < b')) else decide ((a : Int) < a')) = _
  by_cases e : a = a'
  · rw [if_pos (by simp [e])]
    by_cases q : b = b'
    · rw [if_pos (by simp [q])]; simp [e, q]
    · rw [if_neg (by simp only [beq_iff_eq]; lia)]
      exact decide_eq_decide.mpr (by lia)
  · rw [if_neg (by simp only [beq_iff_eq]; lia)]
    exact decide_eq_decide.mpr (by lia)
section
variable {prog : Program} {w : World} {c : Cx} {env : Env} {m : LM} {N : NM} {Pn Pb Pc : LM → NM → Prop} {Pr : V → LM → NM → Prop} {P : V → LM → NM → Prop}
theorem ref_get {A : List Addr} {i : Nat} (h : i < A.length) : (A.map V.ref).getD i .none = .ref (A.getD i 0) := by
  rw [List.getD_eq_getElem?_getD, List.getD_eq_getElem?_getD, List.getElem?_map, List.getElem?_eq_getElem h]; rfl
/- spots = sorted(spots) -/
theorem st8 {sp : Addr} {ps ls : List Nat} {rs : List Addr} (E : FE env c lawSc) (F : Fit w c 2) (hnd : ps.Nodup) (h2 : 2 ≤ ps.length) (h7 : ps.length ≤ 7) (rl : rs.length = ps.length)
    (m3 : m (Str.ofString "spots") = some (.ref sp)) (n2 : N sp = some (.list (rs.map V.ref))) (inn : ∀ i, i < ps.length → N (rs.getD i 0) = some (.list [.int (ps.getD i 0), .int (ls.getD i 0)]))
    (fin : ∀ b (pi : List Nat) N', pi.Perm (List.range ps.length) → pi.Pairwise (fun i j => ps.getD i 0 < ps.getD j 0) → (∀ a o, N a = some o → N' a = some o) → N b = none → N' b = some (.list (pi.map fun i => V.ref (rs.getD i 0))) → Pn (m.put (Str.ofString "spots") (.ref b)) N') :
    Ex prog w c env (lawS 8) m N Pn Pb Pc Pr := by
  have hB := F.B
  refine Ex.assign ?_ (by with_unfolding_all rfl)
  (repeat (first | with_reducible refine Ev.nm (by assumption) (by with_unfolding_all rfl) (by repeat (first | with_reducible assumption | with_reducible exact LM.put_same _ _ _ | with_reducible refine (LM.put_ne (by decide)).trans ?_ | with_unfolding_all rfl)) ?_ | with_reducible refine Ev.call ?_ (by with_unfolding_all rfl) (by with_unfolding_all rfl) (by with_unfolding_all rfl) | with_reducible refine Ev.b_sorted (by assumption) (by assumption) (by with_unfolding_all rfl) ⟨clb_bi, ?_⟩ | with_reducible refine Ar.cons ?_ (by with_unfolding_all rfl) | with_reducible refine Ar.nil ?_))
  refine Ca.sorted (rs := rs) (cs := fun i => [.int (ps.getD i 0), .int (ls.getD i 0)]) (key := fun i => ps.getD i 0) (F.le (by decide)) (.inl n2) (fun i r hr => ?_) (fun _ _ _ _ => len2 _ _ _ _) (fun _ _ _ _ => cmpII)
    (fun i j hi hj => lexII fun e => ?_) (fun i j hi hj e => ?_) (by lia) (by lia) fun b hb p hp hpw => ?_
  · have hi : i < rs.length := (List.getElem?_eq_some_iff.mp hr).1
    have e : rs[i]? = some (rs.getD i 0) := by rw [List.getD_eq_getElem?_getD, List.getElem?_eq_getElem hi]; rfl
    rw [e] at hr
    rw [← Option.some.inj hr]
    exact .inl (inn i (by lia))
  · have : i = j := getD_inj hnd (by lia) (by lia) e
    rw [this]
  · exact getD_inj hnd (by lia) (by lia) e
  · (repeat (first | with_reducible refine Sn.nm (by assumption) (by with_unfolding_all rfl) ?_))
    rw [rl] at hp
    exact fin b p _ hp hpw (fun a o e => NM.keep hb e) hb (NM.put_same _ _ _)
/- the told hues are the drawn ones -/
theorem st9 {h s : Addr} {n : Nat} {H S : List Addr} {Pf Lf : Nat → Nat} {Wf : Nat → List Bool} (E : FE env c lawSc) (F : Fit w c 2) (h7 : n ≤ 7) (hp : ∀ i, i < n → Pf i < 64) (lH : H.length = n) (lS : S.length = n)
    (m1 : m (Str.ofString "hung") = some (.ref h)) (m2 : m (Str.ofString "spots") = some (.ref s)) (f1 : c.F h = some (.list (H.map V.ref))) (f2 : c.F s = some (.list (S.map V.ref)))
    (e1 : ∀ i, i < n → Rd c N (H.getD i 0) (.list [.flt (fl (Pf i)), .str (sx (wd 0 (Wf i)))])) (e2 : ∀ i, i < n → Rd c N (S.getD i 0) (.list [.int (Pf i), .int (Lf i)]))
    (fin : ∀ N', (∀ a o, N a = some o → N' a = some o) → Pn m N') : Ex prog w c env (lawS 9) m N Pn Pb Pc Pr := by
  have hB := F.B
  refine Ex.if ?_
  refine Te.cmp ?_ (by with_unfolding_all rfl)
  refine Ev.comp (n := (H.map V.ref).length) (names := [Str.ofString "one"]) (dss := fun i => [(H.map V.ref).getD i .none]) [] Option.none (fun _ i acc N' => acc = (List.range i).map (fun j => V.flt (fl (Pf j))) ∧ (∀ a o, N a = some o → N' a = some o)) E (clos0 (by decide)) rfl (by decide) (by intro _; with_unfolding_all rfl) (by intro _; with_unfolding_all rfl) (by intro _; with_unfolding_all rfl) (by rw [List.length_map]; lia) ?_ ?_
  rotate_left
  · rintro C c' env' i acc N' X E' hcells hi ⟨rfl, sub⟩
    rw [List.length_map] at hi
    have F' := X.fit F
    have hB' := F'.B
    (repeat (first | with_reducible refine SnL.cons ?_ | with_reducible refine SnL.nil ?_ | with_reducible refine Tes.nil ?_ | with_reducible refine Sn.nm (by assumption) (by with_unfolding_all rfl) ?_))
    refine ⟨fun _ => ?_, nofun⟩
    (repeat (first | with_reducible refine Ev.nm (by assumption) (by with_unfolding_all rfl) (by repeat (first | with_reducible assumption | with_reducible exact LM.put_same _ _ _ | with_reducible refine (LM.put_ne (by decide)).trans ?_ | with_unfolding_all rfl)) ?_ | with_reducible refine Ev.int ?_ | with_reducible refine Ev.sub ?_))
    rw [ref_get hi]
    refine Sb.list (k := 0) ((e1 i (by lia)).imp (sub _ _) (X.F _ _)) (by decide) (by decide) (d := .flt (fl (Pf i))) rfl ?_ (by with_unfolding_all rfl)
    exact ⟨by rw [List.range_succ, List.map_append]; rfl, sub⟩
  refine Src.list F.h ?_
  (repeat (first | with_reducible refine Ev.nm (by assumption) (by with_unfolding_all rfl) (by repeat (first | with_reducible assumption | with_reducible exact LM.put_same _ _ _ | with_reducible refine (LM.put_ne (by decide)).trans ?_ | with_unfolding_all rfl)) ?_))
  refine ⟨h, rfl, f1, fun C _ _ => ⟨rfl, fun _ _ e => e⟩, ?_⟩
  rintro C D acc N1 ⟨rfl, sub1⟩ hD hacc
  rw [List.length_map, lH]
  clear hacc
  refine Ev.comp (n := (S.map V.ref).length) (names := [Str.ofString "one"]) (dss := fun i => [(S.map V.ref).getD i .none]) [] Option.none (fun _ i acc N' => acc = (List.range i).map (fun j => V.flt (fl (Pf j))) ∧ (∀ a o, (N1.put D (.list ((List.range n).map fun j => V.flt (fl (Pf j))))) a = some o → N' a = some o)) E (clos0 (by decide)) rfl (by decide) (by intro _; with_unfolding_all rfl) (by intro _; with_unfolding_all rfl) (by intro _; with_unfolding_all rfl) (by rw [List.length_map]; lia) ?_ ?_
  rotate_left
  · rintro C c' env' i acc N' X E' hcells hi ⟨rfl, sub⟩
    rw [List.length_map] at hi
    have F' := X.fit F
    have hB' := F'.B
    (repeat (first | with_reducible refine SnL.cons ?_ | with_reducible refine SnL.nil ?_ | with_reducible refine Tes.nil ?_ | with_reducible refine Sn.nm (by assumption) (by with_unfolding_all rfl) ?_))
    refine ⟨fun _ => ?_, nofun⟩
    (repeat (first | with_reducible refine Ev.nm (by assumption) (by with_unfolding_all rfl) (by repeat (first | with_reducible assumption | with_reducible exact LM.put_same _ _ _ | with_reducible refine (LM.put_ne (by decide)).trans ?_ | with_unfolding_all rfl)) ?_ | with_reducible refine Ev.bin ?_ | with_reducible refine Ev.int ?_ | with_reducible refine Ev.sub ?_))
    rw [ref_get hi]
    refine Sb.list (k := 0) ((e2 i (by lia)).imp (fun e => sub _ _ (NM.keep hD (sub1 _ _ e))) (X.F _ _)) (by decide) (by decide) (d := .int (Pf i)) rfl ?_ (by with_unfolding_all rfl)
    (repeat (first | with_reducible refine Ev.int ?_))
    refine Bi.divNN (a := Pf i) (b := 64) (by decide) (fl_Fx (by have := hp i (by lia); lia)) ?_
    exact ⟨by rw [List.range_succ, List.map_append]; rfl, sub⟩
  refine Src.list F.h ?_
  (repeat (first | with_reducible refine Ev.nm (by assumption) (by with_unfolding_all rfl) (by repeat (first | with_reducible assumption | with_reducible exact LM.put_same _ _ _ | with_reducible refine (LM.put_ne (by decide)).trans ?_ | with_unfolding_all rfl)) ?_))
  refine ⟨s, rfl, f2, fun C _ _ => ⟨rfl, fun _ _ e => e⟩, ?_⟩
  rintro C D2 acc N2 ⟨rfl, sub2⟩ hD2 hacc2
  rw [List.length_map, lS]
  clear hacc2
  have em : (List.range n).map (fun j => V.flt (fl (Pf j))) = ((List.range n).map fun j => fl (Pf j)).map V.flt := by rw [List.map_map]; rfl
  refine Cp.neF (us := (List.range n).map fun j => fl (Pf j)) hB (by have := F.u; lia) ?_ ?_ ?_ ?_
  · rw [← em]; exact .inl (NM.keep hD2 (sub2 _ _ (NM.put_same _ _ _)))
  · rw [← em]; exact .inl (NM.put_same _ _ _)
  · intro u hu
    obtain ⟨j, hj, rfl⟩ := List.mem_map.mp hu
    exact fl_refl (by have := hp j (List.mem_range.mp hj); lia)
  · (repeat (first | with_reducible refine Tu.bool ?_))
    refine ⟨nofun, fun _ => ?_⟩
    (repeat (first | with_reducible refine Es.nil ?_))
    exact fin _ fun a o e => NM.keep hD2 (sub2 _ _ (NM.keep hD (sub1 _ _ e)))
end
end Mine
end PartA5
section PartA6
open PySem PySem.W PyProof.Rows
set_option linter.unusedVariables false
set_option maxRecDepth 100000
namespace Mine
section
variable {prog : Program} {w : World} {c : Cx} {env : Env} {m : LM} {N : NM} {Pn Pb Pc : LM → NM → Prop} {Pr : V → LM → NM → Prop} {P : V → LM → NM → Prop}
theorem ref_get? {A : List Addr} {i : Nat} (h : i < A.length) : (A.map V.ref)[i]? = some (.ref (A.getD i 0)) := by
  rw [List.getD_eq_getElem?_getD, List.getElem?_map, List.getElem?_eq_getElem h]; rfl
/- dark = [[one[1], one[0]] for one in spots] -/
theorem st10 {s aD : Addr} {n : Nat} {S : List Addr} {Pf Lf : Nat → Nat} (E : FE env c lawSc) (hDk : env.cells.lookup (Str.ofString "dark") = some aD) (F : Fit w c 2) (h7 : n ≤ 7) (lS : S.length = n)
    (m2 : m (Str.ofString "spots") = some (.ref s)) (f2 : c.F s = some (.list (S.map V.ref))) (e2 : ∀ i, i < n → Rd c N (S.getD i 0) (.list [.int (Pf i), .int (Lf i)])) (nD : N aD = some (.cell none))
    (fin : ∀ d (Ds : List Addr) N', Ds.length = n → (∀ a o, N a = some o → a ≠ aD → N' a = some o) → N' aD = some (.cell (some (.ref d))) → N' d = some (.list (Ds.map V.ref)) → (∀ i, i < n → N' (Ds.getD i 0) = some (.list [.int (Lf i), .int (Pf i)])) → Pn m N') : Ex prog w c env (lawS 10) m N Pn Pb Pc Pr := by
  have hB := F.B
  refine Ex.assign ?_ (swaps_cell (isCel_k E (by with_unfolding_all rfl)))
  refine Ev.comp (n := (S.map V.ref).length) (names := [Str.ofString "one"]) (dss := fun i => [(S.map V.ref).getD i .none]) [] Option.none (fun _ i acc N' => ∃ es : List Addr, es.length = i ∧ acc = es.map V.ref ∧ (∀ a o, N a = some o → N' a = some o) ∧
      ∀ j, j < i → N' (es.getD j 0) = some (.list [.int (Lf j), .int (Pf j)])) E (clos0 (by decide)) rfl (by decide) (by intro _; with_unfolding_all rfl) (by intro _; with_unfolding_all rfl) (by intro _; with_unfolding_all rfl) (by rw [List.length_map]; lia) ?_ ?_
  rotate_left
  · intro C c' env' i acc N' X E' hcells hi I9
    refine hideG fun G9 kG9 => ?_
    obtain ⟨es, hes, rfl, sub, hel⟩ := I9
    refine kG9 ?_
    clear kG9
    rw [List.length_map] at hi
    have F' := X.fit F
    have hB' := F'.B
    (repeat (first | with_reducible refine SnL.cons ?_ | with_reducible refine SnL.nil ?_ | with_reducible refine Tes.nil ?_ | with_reducible refine Sn.nm (by assumption) (by with_unfolding_all rfl) ?_))
    refine ⟨fun _ => ?_, nofun⟩
    (repeat (first | with_reducible refine Ev.nm (by assumption) (by with_unfolding_all rfl) (by repeat (first | with_reducible assumption | with_reducible exact LM.put_same _ _ _ | with_reducible refine (LM.put_ne (by decide)).trans ?_ | with_unfolding_all rfl)) ?_ | with_reducible refine Ev.int ?_ | with_reducible refine Ev.sub ?_ | with_reducible refine Ev.list ?_ | with_reducible refine Ar.cons ?_ (by with_unfolding_all rfl)))
    rw [ref_get hi]
    refine Sb.list (k := 1) ((e2 i (by lia)).imp (sub _ _) (X.F _ _)) (by decide) (by decide) (d := .int (Lf i)) rfl ?_ (by with_unfolding_all rfl)
    (repeat (first | with_reducible refine Ev.nm (by assumption) (by with_unfolding_all rfl) (by repeat (first | with_reducible assumption | with_reducible exact LM.put_same _ _ _ | with_reducible refine (LM.put_ne (by decide)).trans ?_ | with_unfolding_all rfl)) ?_ | with_reducible refine Ev.int ?_ | with_reducible refine Ev.sub ?_ | with_reducible refine Ar.cons ?_ (by with_unfolding_all rfl)))
    refine Sb.list (k := 0) ((e2 i (by lia)).imp (sub _ _) (X.F _ _)) (by decide) (by decide) (d := .int (Pf i)) rfl ?_ (by with_unfolding_all rfl)
    (repeat (first | with_reducible refine Ar.nil ?_))
    refine ⟨by simp, fun r hr => ?_⟩
    refine ⟨es ++ [r], by simp [hes], by simp, fun a o e => NM.keep hr (sub a o e), fun j hj => ?_⟩
    by_cases h : j < i
    · rw [getD_lt (by lia)]
      exact NM.keep hr (hel j h)
    · have e : j = i := by lia
      rw [e, getD_end es r 0 hes]
      exact NM.put_same _ _ _
  refine Src.list F.h ?_
  (repeat (first | with_reducible refine Ev.nm (by assumption) (by with_unfolding_all rfl) (by repeat (first | with_reducible assumption | with_reducible exact LM.put_same _ _ _ | with_reducible refine (LM.put_ne (by decide)).trans ?_ | with_unfolding_all rfl)) ?_))
  refine ⟨s, rfl, f2, fun C _ _ => ⟨[], rfl, rfl, fun _ _ e => e, fun j hj => by (exfalso; lia)⟩, ?_⟩
  intro C D acc N1 I9 hD hacc
  refine hideG fun G9 kG9 => ?_
  obtain ⟨es, hes, rfl, sub, hel⟩ := I9
  refine kG9 ?_
  clear kG9
  rw [List.length_map, lS] at hes hel
  have hDa : (N1.put D (.list (es.map V.ref))) aD = some (.cell none) := NM.keep hD (sub _ _ nD)
  refine Sn.ce E (by with_unfolding_all rfl) hDk hDa ?_
  refine fin D es _ hes (fun a o e h => (NM.put_ne h).trans (NM.keep hD (sub a o e))) (NM.put_same _ _ _) ?_ fun i hi => ?_
  · refine (NM.put_ne fun q => ?_).trans (NM.put_same _ _ _)
    rw [← q, NM.put_same] at hDa; cases hDa
  · have e := NM.keep (x := .list (es.map V.ref)) hD (hel i (by omega))
    refine (NM.put_ne fun q => ?_).trans e
    rw [q, hDa] at e; cases e
/- lowest = [[0] * count for one in range(count)] -/
theorem st11 {aC aW : Addr} {n : Nat} (E : FE env c lawSc) (hC : env.cells.lookup (Str.ofString "count") = some aC) (hW : env.cells.lookup (Str.ofString "lowest") = some aW) (F : Fit w c 2) (h7 : n ≤ 7)
    (nC : N aC = some (.cell (some (.int n)))) (nW : N aW = some (.cell none))
    (fin : ∀ lw (ws : List Addr) N', ws.length = n → ws.Nodup → (∀ x ∈ ws, N x = none ∧ x ≠ lw ∧ x ≠ aW) → (∀ a o, N a = some o → a ≠ aW → N' a = some o) → N' aW = some (.cell (some (.ref lw))) → N lw = none → N' lw = some (.list (ws.map V.ref)) → (∀ i, i < n → N' (ws.getD i 0) = some (.list (List.replicate n (.int 0)))) → Pn m N') : Ex prog w c env (lawS 11) m N Pn Pb Pc Pr := by
  have hB := F.B
  refine Ex.assign ?_ (swaps_cell (isCel_k E (by with_unfolding_all rfl)))
  refine Ev.comp (n := n) (names := [Str.ofString "one"]) (dss := fun i => [.int i]) [(Str.ofString "count", aC)] Option.none (fun _ i acc N' => ∃ es : List Addr, es.length = i ∧ es.Nodup ∧ (∀ x ∈ es, N x = none) ∧ acc = es.map V.ref ∧ (∀ a o, N a = some o → N' a = some o) ∧
      ∀ j, j < i → N' (es.getD j 0) = some (.list (List.replicate n (.int 0)))) E ?_ rfl (by decide) (by intro _; with_unfolding_all rfl) (by intro _; with_unfolding_all rfl) (by intro _; with_unfolding_all rfl) (by exact Nat.le_trans (by assumption) (by decide)) ?_ ?_
  · have k1 : (NameKind.local == NameKind.free) = false := by decide
    have k2 : (NameKind.free == NameKind.free) = true := by decide
    simp [closureFor, cellOf_eq hC, k1, k2]
  rotate_left
  · intro C c' env' i acc N' X E' hcells hi I9
    refine hideG fun G9 kG9 => ?_
    obtain ⟨es, hes, hnd, hnew, rfl, sub, hel⟩ := I9
    refine kG9 ?_
    clear kG9
    have F' := X.fit F
    have hB' := F'.B
    have hcl : env'.cells.lookup (Str.ofString "count") = some aC := by rw [hcells]; with_unfolding_all rfl
    (repeat (first | with_reducible refine SnL.cons ?_ | with_reducible refine SnL.nil ?_ | with_reducible refine Tes.nil ?_ | with_reducible refine Sn.nm (by assumption) (by with_unfolding_all rfl) ?_))
    refine ⟨fun _ => ?_, nofun⟩
    (repeat (first | with_reducible refine Ev.bin ?_ | with_reducible refine Ev.int ?_ | with_reducible refine Ev.list ?_ | with_reducible refine Ar.cons ?_ (by with_unfolding_all rfl) | with_reducible refine Ar.nil ?_))
    refine ⟨by simp, fun r0 hr0 => ?_⟩
    refine Ev.ce E' (by with_unfolding_all rfl) hcl (.inl (NM.keep hr0 (sub _ _ nC))) ?_
    refine Bi.mulL (.inl (NM.put_same _ _ _)) (by exact Nat.le_trans (by assumption) (by decide)) fun r hr => ?_
    have sub2 : ∀ a o, N' a = some o → ((N'.put r0 (.list [.int 0])).put r (.list (List.replicate n (.int 0)))) a = some o := fun a o e => NM.keep hr (NM.keep hr0 e)
    refine ⟨es ++ [r], by simp [hes], ?_, ?_, by simp, fun a o e => sub2 _ _ (sub a o e), fun j hj => ?_⟩
    · rw [List.nodup_append]
      refine ⟨hnd, by simp, fun x hx y hy e => ?_⟩
      rw [List.mem_singleton.mp hy] at e
      obtain ⟨j, hj, q⟩ := List.getElem_of_mem hx
      have := hel j (by lia)
      rw [List.getD_eq_getElem?_getD, List.getElem?_eq_getElem hj, Option.getD_some, q, e] at this
      rw [NM.keep hr0 this] at hr; cases hr
    · intro x hx
      rcases List.mem_append.mp hx with h | h
      · exact hnew x h
      · rw [List.mem_singleton.mp h]
        cases e : N r with
        | none => rfl
        | some o => rw [NM.keep hr0 (sub _ _ e)] at hr; cases hr
    · by_cases h : j < i
      · rw [getD_lt (by lia)]
        exact sub2 _ _ (hel j h)
      · have e : j = i := by lia
        rw [e, getD_end es r 0 hes]
        exact NM.put_same _ _ _
  refine Src.range F.h (by exact Nat.le_trans (by assumption) (by decide)) ?_
  (repeat (first | with_reducible refine Ev.call ?_ (by with_unfolding_all rfl) (by with_unfolding_all rfl) (by with_unfolding_all rfl) | with_reducible refine Ev.b_range (by assumption) (by assumption) (by with_unfolding_all rfl) ⟨clb_ty, ?_⟩ | with_reducible refine Ar.cons ?_ (by with_unfolding_all rfl)))
  refine Ev.ce E (by with_unfolding_all rfl) hC (.inl nC) ?_
  (repeat (first | with_reducible refine Ar.nil ?_))
  refine Ca.range1 fun ra hra => ?_
  refine ⟨ra, rfl, NM.put_same _ _ _, fun C _ _ => ⟨[], rfl, .nil, by simp, rfl, fun _ _ e => NM.keep hra e, fun j hj => by (exfalso; lia)⟩, ?_⟩
  intro C D acc N1 I9 hD hacc
  refine hideG fun G9 kG9 => ?_
  obtain ⟨es, hes, hnd, hnew, rfl, sub, hel⟩ := I9
  refine kG9 ?_
  clear kG9
  have hDa : (N1.put D (.list (es.map V.ref))) aW = some (.cell none) := NM.keep hD (sub _ _ nW)
  refine Sn.ce E (by with_unfolding_all rfl) hW hDa ?_
  have ne : ∀ i, i < n → es.getD i 0 ≠ D ∧ es.getD i 0 ≠ aW := fun i hi => by
    have e := hel i hi
    exact ⟨(fun q => by rw [q, hD] at e; cases e), (fun q => by rw [q, sub _ _ nW] at e; cases e)⟩
  refine fin D es _ hes hnd (fun x hx => ?_) (fun a o e h => (NM.put_ne h).trans (NM.keep hD (sub a o e))) (NM.put_same _ _ _) ?_ ?_ fun i hi => (NM.put_ne (ne i hi).2).trans (NM.keep hD (hel i hi))
  · obtain ⟨j, hj, q⟩ := List.getElem_of_mem hx
    have := ne j (by lia)
    rw [List.getD_eq_getElem?_getD, List.getElem?_eq_getElem hj, Option.getD_some, q] at this
    exact ⟨hnew x hx, this.1, this.2⟩
  · cases e : N D with
    | none => rfl
    | some o => rw [sub _ _ e] at hD; cases hD
  · refine (NM.put_ne fun q => ?_).trans (NM.put_same _ _ _)
    rw [← q, NM.put_same] at hDa; cases hDa
end
end Mine
end PartA6
section PartA7
open PySem PySem.W PyProof.Rows
set_option linter.unusedVariables false
set_option maxRecDepth 100000
namespace Mine
/- the table, filled up to the stretch i0 .. i0 + q -/
noncomputable def tb (K : Nat → Nat) (i0 q i j : Nat) : Nat := if min i j < i0 ∨ (min i j = i0 ∧ max i j < i0 + q) then low K i j else 0
noncomputable def row (K : Nat → Nat) (n i0 q i : Nat) : List V := (List.range n).map fun j => V.int (tb K i0 q i j : Nat)
theorem row_len (K : Nat → Nat) (n i0 q i : Nat) : (row K n i0 q i).length = n := by simp [row]
theorem row_same {K : Nat → Nat} {n i0 q i : Nat} (h1 : i ≠ i0) (h2 : i ≠ i0 + q) : row K n i0 (q + 1) i = row K n i0 q i := by
  refine List.map_congr_left fun j _ => ?_
  unfold tb
  congr 2
  have : (min i j < i0 ∨ (min i j = i0 ∧ max i j < i0 + (q + 1))) ↔ (min i j < i0 ∨ (min i j = i0 ∧ max i j < i0 + q)) := by lia
  by_cases h : min i j < i0 ∨ (min i j = i0 ∧ max i j < i0 + q)
  · rw [if_pos h, if_pos (this.mpr h)]
  · rw [if_neg h, if_neg fun z => h (this.mp z)]
theorem tb_off {K : Nat → Nat} {i0 q i j : Nat} (h : ¬ (min i j = i0 ∧ max i j = i0 + q)) : tb K i0 (q + 1) i j = tb K i0 q i j := by
  unfold tb
  have : (min i j < i0 ∨ (min i j = i0 ∧ max i j < i0 + (q + 1))) ↔ (min i j < i0 ∨ (min i j = i0 ∧ max i j < i0 + q)) := by lia
  by_cases h : min i j < i0 ∨ (min i j = i0 ∧ max i j < i0 + q)
  · rw [if_pos h, if_pos (this.mpr h)]
  · rw [if_neg h, if_neg fun z => h (this.mp z)]
theorem row_set {K : Nat → Nat} {n i0 q i k : Nat} (hk : k < n) (h : (i = i0 ∧ k = i0 + q) ∨ (i = i0 + q ∧ k = i0)) : (row K n i0 q i).set k (.int (low K i0 (i0 + q) : Nat)) = row K n i0 (q + 1) i := by
  refine List.ext_getElem (by simp [row]) fun j h1 h2 => ?_
  rw [List.getElem_set]
  simp only [row, List.getElem_map, List.getElem_range]
  by_cases e : k = j
  · subst e
    rw [if_pos rfl]
    congr 2
    unfold tb
    rw [if_pos (by lia)]
    rcases h with ⟨rfl, rfl⟩ | ⟨rfl, rfl⟩
    · rfl
    · rw [low_comm]
  · rw [if_neg e, tb_off (by lia)]
theorem row_set2 {K : Nat → Nat} {n i0 : Nat} (hk : i0 < n) : ((row K n i0 0 i0).set i0 (.int (low K i0 (i0 + 0) : Nat))).set i0 (.int (low K i0 (i0 + 0) : Nat)) = row K n i0 1 i0 := by
  rw [List.set_set]
  exact row_set (q := 0) hk (.inl ⟨rfl, rfl⟩)
theorem row_next {K : Nat → Nat} {n i0 i : Nat} (hi : i < n) : row K n i0 (n - i0) i = row K n (i0 + 1) 0 i := by
  refine List.map_congr_left fun j hj => ?_
  have hj := List.mem_range.mp hj
  unfold tb
  congr 2
  have : (min i j < i0 ∨ (min i j = i0 ∧ max i j < i0 + (n - i0))) ↔ (min i j < i0 + 1 ∨ (min i j = i0 + 1 ∧ max i j < i0 + 1 + 0)) := by lia
  by_cases h : min i j < i0 ∨ (min i j = i0 ∧ max i j < i0 + (n - i0))
  · rw [if_pos h, if_pos (this.mp h)]
  · rw [if_neg h, if_neg fun z => h (this.mpr z)]
theorem row_first (K : Nat → Nat) (n i : Nat) : List.replicate n (V.int 0) = row K n 0 0 i := by
  refine List.ext_getElem (by simp [row]) fun j h1 h2 => ?_
  simp only [row, List.getElem_map, List.getElem_replicate]
  unfold tb
  rw [if_neg (by lia)]; rfl
theorem row_last {K : Nat → Nat} {n i : Nat} (hi : i < n) : row K n n 0 i = (List.range n).map fun j => V.int (low K i j : Nat) := by
  refine List.map_congr_left fun j hj => ?_
  have hj := List.mem_range.mp hj
  unfold tb
  rw [if_pos (by omega)]
theorem am_step (K : Nat → Nat) (i0 q : Nat) : (if K (i0 + q) < K (am K i0 (q - 1)) then i0 + q else am K i0 (q - 1)) = am K i0 q := by
  cases q with
  | zero => show (if K i0 < K i0 then i0 else i0) = i0; split <;> rfl
  | succ q => rfl
theorem low_am (K : Nat → Nat) (i0 q : Nat) : low K i0 (i0 + q) = am K i0 q := by
  unfold low
  rw [show min i0 (i0 + q) = i0 by lia, show max i0 (i0 + q) - i0 = q by lia]
section
variable {prog : Program} {w : World} {c : Cx} {env : Env} {m : LM} {N : NM} {Pn Pb Pc : LM → NM → Prop} {Pr : V → LM → NM → Prop} {P : V → LM → NM → Prop}
theorem st12 {aC aD aW d lw h : Addr} {n : Nat} {Ds ws : List Addr} {Pf Lf : Nat → Nat} (E : FE env c lawSc) (hC : env.cells.lookup (Str.ofString "count") = some aC) (hDk : env.cells.lookup (Str.ofString "dark") = some aD) (hW : env.cells.lookup (Str.ofString "lowest") = some aW)
    (F : Fit w c 2) (h7 : n ≤ 7) (nC : N aC = some (.cell (some (.int n)))) (nD : N aD = some (.cell (some (.ref d)))) (nW : N aW = some (.cell (some (.ref lw)))) (mh : m (Str.ofString "hung") = some (.ref h))
    (fd : c.F d = some (.list (Ds.map V.ref))) (fD : ∀ i, i < n → c.F (Ds.getD i 0) = some (.list [.int (Lf i), .int (Pf i)])) (fw : c.F lw = some (.list (ws.map V.ref))) (lD : Ds.length = n) (lw' : ws.length = n) (hnd : ws.Nodup) (hp : ∀ i, i < n → Pf i < 64)
    (rows : ∀ i, i < n → N (ws.getD i 0) = some (.list (List.replicate n (.int 0))))
    (fin : ∀ m' N', m' (Str.ofString "hung") = some (.ref h) → KE ws N N' → (∀ i, i < n → N' (ws.getD i 0) = some (.list ((List.range n).map fun j => V.int (low (fun i => 64 * Lf i + Pf i) i j : Nat)))) → Pn m' N') : Ex prog w c env (lawS 12) m N Pn Pb Pc Pr := by
  have hB := F.B
  generalize hK : (fun i => 64 * Lf i + Pf i) = K at fin
  have hKi : ∀ i, 64 * Lf i + Pf i = K i := fun i => by rw [← hK]
  have wsi : ∀ i, i < n → ws.getD i 0 ∈ ws := fun i hi => by rw [List.getD_eq_getElem?_getD, List.getElem?_eq_getElem (by lia)]; exact List.getElem_mem _
  have inj : ∀ i j, i < n → j < n → ws.getD i 0 = ws.getD j 0 → i = j := fun i j hi hj e => by
    rw [List.getD_eq_getElem?_getD, List.getD_eq_getElem?_getD, List.getElem?_eq_getElem (by lia), List.getElem?_eq_getElem (by lia)] at e
    exact (List.getElem_inj hnd).mp e
  have cw : ∀ a o, N a = some (.cell o) → a ∉ ws := fun a o e q => by
    obtain ⟨j, hj, z⟩ := List.getElem_of_mem q
    have := rows j (by lia)
    rw [List.getD_eq_getElem?_getD, List.getElem?_eq_getElem hj, Option.getD_some, z, e] at this
    cases this
  refine Ex.forRange n 0 (fun i0 m' N' => m' (Str.ofString "hung") = some (.ref h) ∧ KE ws N N' ∧ ∀ i, i < n → N' (ws.getD i 0) = some (.list (row K n i0 0 i))) F.h E.L E.kind (isLoc_k E (by with_unfolding_all rfl)) ?_ ?_ ?_ ?_
  · (repeat (first | with_reducible refine Ev.call ?_ (by with_unfolding_all rfl) (by with_unfolding_all rfl) (by with_unfolding_all rfl) | with_reducible refine Ev.b_range (by assumption) (by assumption) (by with_unfolding_all rfl) ⟨clb_ty, ?_⟩ | with_reducible refine Ar.cons ?_ (by with_unfolding_all rfl)))
    refine Ev.ce E (by with_unfolding_all rfl) hC (.inl nC) ?_
    (repeat (first | with_reducible refine Ar.nil ?_))
    refine Ca.range1 fun ra hra => ?_
    refine ⟨ra, _, rfl, NM.put_same _ _ _, by exact Int.natCast_nonneg _, by exact Int.natCast_nonneg _, by exact Int.natCast_nonneg _, by lia, by lia, mh, (KE.refl _ N).new hra, fun i hi => ?_⟩
    rw [← row_first]; exact NM.keep hra (rows i hi)
  · rintro c' i0 m5 N5 X hi0 ⟨q1, ke, rw5⟩
    have E' := E.ext X
    have F' := F.ext X
    have hB' := F'.B
    have e0 : (0 : Int) + (i0 : Nat) = i0 := by lia
    rw [e0]
    refine Es.cons ?_
    (repeat (first | with_reducible refine Ev.nm (by assumption) (by with_unfolding_all rfl) (by repeat (first | with_reducible assumption | with_reducible exact LM.put_same _ _ _ | with_reducible refine (LM.put_ne (by decide)).trans ?_ | with_unfolding_all rfl)) ?_ | with_reducible refine Es.cons ?_ | with_reducible refine Sn.nm (by assumption) (by with_unfolding_all rfl) ?_ | with_reducible refine Ex.assign ?_ (by with_unfolding_all rfl)))
    refine Ex.cut (fun _ _ m' N' => m' (Str.ofString "hung") = some (.ref h) ∧ KE ws N N' ∧ ∀ i, i < n → N' (ws.getD i 0) = some (.list (row K n i0 (n - i0) i))) ?_ ?_
    rotate_left
    · rintro m6 N6 ⟨r1, r2, r3⟩
      (repeat (first | with_reducible refine Es.nil ?_))
      exact ⟨r1, r2, fun i hi => by rw [r3 i hi, row_next hi]⟩
    refine Ex.forRange (n - i0) i0 (fun q m' N' => m' (Str.ofString "hung") = some (.ref h) ∧ m' (Str.ofString "one") = some (.int i0) ∧ m' (Str.ofString "best") = some (.int (am K i0 (q - 1))) ∧ KE ws N N' ∧ ∀ i, i < n → N' (ws.getD i 0) = some (.list (row K n i0 q i))) F'.h E'.L E'.kind (isLoc_k E' (by with_unfolding_all rfl)) ?_ ?_ ?_ ?_
    · (repeat (first | with_reducible refine Ev.nm (by assumption) (by with_unfolding_all rfl) (by repeat (first | with_reducible assumption | with_reducible exact LM.put_same _ _ _ | with_reducible refine (LM.put_ne (by decide)).trans ?_ | with_unfolding_all rfl)) ?_ | with_reducible refine Ev.call ?_ (by with_unfolding_all rfl) (by with_unfolding_all rfl) (by with_unfolding_all rfl) | with_reducible refine Ev.b_range (by assumption) (by assumption) (by with_unfolding_all rfl) ⟨clb_ty, ?_⟩ | with_reducible refine Ar.cons ?_ (by with_unfolding_all rfl)))
      refine Ev.ce E' (by with_unfolding_all rfl) hC (.inl (ke _ _ nC (cw _ _ nC))) ?_
      (repeat (first | with_reducible refine Ar.nil ?_))
      refine Ca.range2 fun ra hra => ?_
      refine ⟨ra, _, rfl, NM.put_same _ _ _, by exact Int.natCast_nonneg _, by lia, by exact Int.natCast_nonneg _, by lia, by lia, ?_, ?_, ?_, ke.new hra, fun i hi => NM.keep hra (rw5 i hi)⟩
      · (repeat (first | with_reducible assumption | with_reducible exact LM.put_same _ _ _ | with_reducible refine (LM.put_ne (by decide)).trans ?_))
      · (repeat (first | with_reducible assumption | with_reducible exact LM.put_same _ _ _ | with_reducible refine (LM.put_ne (by decide)).trans ?_))
      · exact LM.put_same _ _ _
    · intro c2 q m6 N6 X2 hq I9
      refine hideG fun G9 kG9 => ?_
      obtain ⟨s1, s2, s3, ke6, rw6⟩ := I9
      refine kG9 ?_
      clear kG9
      have E2 := E'.ext X2
      have F2 := F'.ext X2
      have hB2 := F2.B
      have e1 : (i0 : Int) + (q : Nat) = ((i0 + q : Nat) : Int) := by lia
      rw [e1]
      have hoth : i0 + q < n := by lia
      have hbest : am K i0 (q - 1) < n := by have := (am_range K i0 (q - 1)).2; lia
      refine Ex.cut (fun _ _ m' N' => N' = N6 ∧ m' (Str.ofString "hung") = some (.ref h) ∧ m' (Str.ofString "one") = some (.int i0) ∧ m' (Str.ofString "other") = some (.int (i0 + q : Nat)) ∧ m' (Str.ofString "best") = some (.int (am K i0 q))) ?_ ?_ |> Es.cons
      · refine Ex.if ?_
        (repeat (first | with_reducible refine Ev.sub ?_ | with_reducible refine Te.cmp ?_ (by with_unfolding_all rfl)))
        refine Ev.ce E2 (by with_unfolding_all rfl) hDk (.inl (ke6 _ _ nD (cw _ _ nD))) ?_
        (repeat (first | with_reducible refine Ev.nm (by assumption) (by with_unfolding_all rfl) (by repeat (first | with_reducible assumption | with_reducible exact LM.put_same _ _ _ | with_reducible refine (LM.put_ne (by decide)).trans ?_ | with_unfolding_all rfl)) ?_))
        refine Sb.list (.inr (X2.F _ _ (X.F _ _ fd))) (by exact Int.natCast_nonneg _) (by lia) (by rw [Int.toNat_natCast]; exact ref_get? (by lia)) ?_ (by with_unfolding_all rfl)
        (repeat (first | with_reducible refine Ev.sub ?_))
        refine Ev.ce E2 (by with_unfolding_all rfl) hDk (.inl (ke6 _ _ nD (cw _ _ nD))) ?_
        (repeat (first | with_reducible refine Ev.nm (by assumption) (by with_unfolding_all rfl) (by repeat (first | with_reducible assumption | with_reducible exact LM.put_same _ _ _ | with_reducible refine (LM.put_ne (by decide)).trans ?_ | with_unfolding_all rfl)) ?_))
        refine Sb.list (.inr (X2.F _ _ (X.F _ _ fd))) (by exact Int.natCast_nonneg _) (by lia) (by rw [Int.toNat_natCast]; exact ref_get? (by lia)) ?_ (by with_unfolding_all rfl)
        refine Cp.ltL hB2 (by have := F2.u; lia) (.inr (X2.F _ _ (X.F _ _ (fD _ hoth)))) (.inr (X2.F _ _ (X.F _ _ (fD _ hbest)))) (len2 _ _ _ _) cmpII ?_
        rw [lexKey (hp _ hoth) (hp _ hbest), hKi, hKi]
        (repeat (first | with_reducible refine Tu.bool ?_))
        have stp := am_step K i0 q
        refine ⟨fun b => ?_, fun b => ?_⟩
        · rw [if_pos (of_decide_eq_true b)] at stp
          (repeat (first | with_reducible refine Ev.nm (by assumption) (by with_unfolding_all rfl) (by repeat (first | with_reducible assumption | with_reducible exact LM.put_same _ _ _ | with_reducible refine (LM.put_ne (by decide)).trans ?_ | with_unfolding_all rfl)) ?_ | with_reducible refine Es.cons ?_ | with_reducible refine Es.nil ?_ | with_reducible refine Sn.nm (by assumption) (by with_unfolding_all rfl) ?_ | with_reducible refine Ex.assign ?_ (by with_unfolding_all rfl)))
          refine ⟨rfl, ?_, ?_, ?_, ?_⟩
          · (repeat (first | with_reducible assumption | with_reducible exact LM.put_same _ _ _ | with_reducible refine (LM.put_ne (by decide)).trans ?_))
          · (repeat (first | with_reducible assumption | with_reducible exact LM.put_same _ _ _ | with_reducible refine (LM.put_ne (by decide)).trans ?_))
          · (repeat (first | with_reducible assumption | with_reducible exact LM.put_same _ _ _ | with_reducible refine (LM.put_ne (by decide)).trans ?_))
          · rw [← stp]; exact LM.put_same _ _ _
        · rw [if_neg (of_decide_eq_false b)] at stp
          (repeat (first | with_reducible refine Es.nil ?_))
          refine ⟨rfl, ?_, ?_, ?_, ?_⟩
          · (repeat (first | with_reducible assumption | with_reducible exact LM.put_same _ _ _ | with_reducible refine (LM.put_ne (by decide)).trans ?_))
          · (repeat (first | with_reducible assumption | with_reducible exact LM.put_same _ _ _ | with_reducible refine (LM.put_ne (by decide)).trans ?_))
          · (repeat (first | with_reducible assumption | with_reducible exact LM.put_same _ _ _ | with_reducible refine (LM.put_ne (by decide)).trans ?_))
          · rw [← stp]; (repeat (first | with_reducible assumption | with_reducible exact LM.put_same _ _ _ | with_reducible refine (LM.put_ne (by decide)).trans ?_))
      · intro m7 N7 I9
        refine hideG fun G9 kG9 => ?_
        obtain ⟨rfl, t1, t2, t3, t4⟩ := I9
        refine kG9 ?_
        clear kG9
        have hrow := rw6 i0 hi0
        refine Es.cons ?_
        refine Ex.setItem ?_ (by with_unfolding_all rfl)
        (repeat (first | with_reducible refine Ev.nm (by assumption) (by with_unfolding_all rfl) (by repeat (first | with_reducible assumption | with_reducible exact LM.put_same _ _ _ | with_reducible refine (LM.put_ne (by decide)).trans ?_ | with_unfolding_all rfl)) ?_ | with_reducible refine Ev.sub ?_))
        refine Ev.ce E2 (by with_unfolding_all rfl) hW (.inl (ke6 _ _ nW (cw _ _ nW))) ?_
        (repeat (first | with_reducible refine Ev.nm (by assumption) (by with_unfolding_all rfl) (by repeat (first | with_reducible assumption | with_reducible exact LM.put_same _ _ _ | with_reducible refine (LM.put_ne (by decide)).trans ?_ | with_unfolding_all rfl)) ?_))
        refine Sb.list (.inr (X2.F _ _ (X.F _ _ fw))) (by lia) (by lia) (by rw [Int.toNat_natCast]; exact ref_get? (by lia)) ?_ (by with_unfolding_all rfl)
        (repeat (first | with_reducible refine Ev.nm (by assumption) (by with_unfolding_all rfl) (by repeat (first | with_reducible assumption | with_reducible exact LM.put_same _ _ _ | with_reducible refine (LM.put_ne (by decide)).trans ?_ | with_unfolding_all rfl)) ?_))
        refine ⟨_, _, _, rfl, rfl, hrow, by lia, by rw [row_len]; lia, by lia, ?_⟩
        rw [Int.toNat_natCast]
        have ke7 : KE ws N (N7.put (ws.getD i0 0) (.list ((row K n i0 q i0).set (i0 + q) (.int (am K i0 q))))) := ke6.upd (wsi i0 hi0)
        have rw7 : ∀ i, i < n → (N7.put (ws.getD i0 0) (.list ((row K n i0 q i0).set (i0 + q) (.int (am K i0 q))))) (ws.getD i 0) = some (.list (if i = i0 then (row K n i0 q i0).set (i0 + q) (.int (am K i0 q)) else row K n i0 q i)) := fun i hi => by
          by_cases e : i = i0
          · rw [e, if_pos rfl]; exact NM.put_same _ _ _
          · rw [if_neg e]
            exact (NM.put_ne fun z => e (inj _ _ hi hi0 z)).trans (rw6 i hi)
        generalize N7.put (ws.getD i0 0) (.list ((row K n i0 q i0).set (i0 + q) (.int (am K i0 q)))) = N8 at ke7 rw7
        refine Es.cons ?_
        refine Ex.setItem ?_ (by with_unfolding_all rfl)
        (repeat (first | with_reducible refine Ev.nm (by assumption) (by with_unfolding_all rfl) (by repeat (first | with_reducible assumption | with_reducible exact LM.put_same _ _ _ | with_reducible refine (LM.put_ne (by decide)).trans ?_ | with_unfolding_all rfl)) ?_ | with_reducible refine Ev.sub ?_))
        refine Ev.ce E2 (by with_unfolding_all rfl) hW (.inl (ke7 _ _ nW (cw _ _ nW))) ?_
        (repeat (first | with_reducible refine Ev.nm (by assumption) (by with_unfolding_all rfl) (by repeat (first | with_reducible assumption | with_reducible exact LM.put_same _ _ _ | with_reducible refine (LM.put_ne (by decide)).trans ?_ | with_unfolding_all rfl)) ?_))
        refine Sb.list (.inr (X2.F _ _ (X.F _ _ fw))) (by lia) (by lia) (by rw [Int.toNat_natCast]; exact ref_get? (by lia)) ?_ (by with_unfolding_all rfl)
        (repeat (first | with_reducible refine Ev.nm (by assumption) (by with_unfolding_all rfl) (by repeat (first | with_reducible assumption | with_reducible exact LM.put_same _ _ _ | with_reducible refine (LM.put_ne (by decide)).trans ?_ | with_unfolding_all rfl)) ?_))
        refine ⟨_, _, _, rfl, rfl, rw7 (i0 + q) hoth, by lia, ?_, by lia, ?_⟩
        · split <;> simp [row_len] <;> lia
        rw [Int.toNat_natCast]
        (repeat (first | with_reducible refine Es.nil ?_))
        refine ⟨t1, t2, t4, ke7.upd (wsi _ hoth), fun i hi => ?_⟩
        rw [← low_am]
        by_cases e : i = i0 + q
        · subst e
          rw [NM.put_same]
          by_cases e2 : i0 + q = i0
          · have q0 : q = 0 := by lia
            subst q0
            rw [if_pos e2]
            show some (AO.list (((row K n i0 0 i0).set i0 (.int (low K i0 (i0 + 0) : Nat))).set i0 (.int (low K i0 (i0 + 0) : Nat)))) = _
            rw [row_set2 hi0]; rfl
          · rw [if_neg e2, row_set hi0 (.inr ⟨rfl, rfl⟩)]
        · rw [NM.put_ne fun z => e (inj _ _ hi hoth z), rw7 i hi]
          by_cases e2 : i = i0
          · rw [if_pos e2, e2, ← low_am, row_set hoth (.inl ⟨rfl, rfl⟩)]
          · rw [if_neg e2, row_same e2 e]
    · intro m6 N6 I9
      refine hideG fun G9 kG9 => ?_
      obtain ⟨s1, s2, s3, ke6, rw6⟩ := I9
      refine kG9 ?_
      clear kG9
      exact ⟨s1, ke6, rw6⟩
    · intro _; with_unfolding_all rfl
  · rintro m5 N5 ⟨q1, ke, rw5⟩
    exact fin m5 N5 q1 ke fun i hi => by rw [rw5 i hi, row_last hi]
  · intro _; with_unfolding_all rfl
end
end Mine
end PartA7
section PartA8
open PySem PySem.W PyProof.Rows
set_option linter.unusedVariables false
set_option maxRecDepth 100000
namespace Mine
theorem cmpIII {a b d a' b' d' : Int} : CmpL [.int a, .int b, .int d] [.int a', .int b', .int d'] := ⟨trivial, fun _ => ⟨trivial, fun _ => ⟨trivial, fun _ => trivial⟩⟩⟩
theorem len3 (a b d a' b' d' : V) : [a, b, d].length = [a', b', d'].length := rfl
theorem lexKey3 {a b d a' b' d' : Nat} (hb : b < 64) (hb' : b' < 64) (hd : a = a' → b = b' → d = d') : lexL [.int a, .int b, .int d] [.int a', .int b', .int d'] = decide (64 * a + b < 64 * a' + b') := by
  show (if ((a : Int) == (a' : Int)) = true then (if ((b : Int) == (b' : Int)) = true then (if ((d : Int) == (d' : Int)) = true then false else decide ((d : Int) < d')) else decide ((b : Int) < b')) else decide ((a : Int) < a')) = _
  by_cases e : a = a'
  · rw [if_pos (by simp [e])]
    by_cases q : b = b'
    · rw [if_pos (by simp [q]), if_pos (by simp [hd e q])]; simp [e, q]
    · rw [if_neg (by simp only [beq_iff_eq]; lia)]
      exact decide_eq_decide.mpr (by lia)
  · rw [if_neg (by simp only [beq_iff_eq]; lia)]
    exact decide_eq_decide.mpr (by lia)
section
variable {prog : Program} {w : World} {c : Cx} {env : Env} {m : LM} {N : NM} {Pn Pb Pc : LM → NM → Prop} {Pr : V → LM → NM → Prop} {P : V → LM → NM → Prop}
theorem st13 {aC aD aO d : Addr} {n : Nat} {Ds : List Addr} {Pf Lf : Nat → Nat} (E : FE env c lawSc) (hC : env.cells.lookup (Str.ofString "count") = some aC) (hDk : env.cells.lookup (Str.ofString "dark") = some aD) (hO : env.cells.lookup (Str.ofString "order") = some aO)
    (F : Fit w c 2) (h2 : 2 ≤ n) (h7 : n ≤ 7) (nC : N aC = some (.cell (some (.int n)))) (nD : N aD = some (.cell (some (.ref d)))) (nO : N aO = some (.cell none))
    (fd : c.F d = some (.list (Ds.map V.ref))) (fD : ∀ i, i < n → c.F (Ds.getD i 0) = some (.list [.int (Lf i), .int (Pf i)])) (lD : Ds.length = n) (hp : ∀ i, i < n → Pf i < 64)
    (inj : ∀ i j, i < n → j < n → 64 * Lf i + Pf i = 64 * Lf j + Pf j → i = j)
    (fin : ∀ o (rho : List Nat) N', rho.Perm (List.range n) → rho.Pairwise (fun i j => 64 * Lf i + Pf i < 64 * Lf j + Pf j) → (∀ a x, N a = some x → a ≠ aO → N' a = some x) → N' aO = some (.cell (some (.ref o))) → N o = none → N' o = some (.list (rho.map fun i : Nat => V.int i)) → Pn m N') :
    Ex prog w c env (lawS 13) m N Pn Pb Pc Pr := by
  have hB := F.B
  refine Ex.assign ?_ (swaps_cell (isCel_k E (by with_unfolding_all rfl)))
  refine Ev.compX [] Option.none E (clos0 (by decide)) rfl (by decide) (by intro _; with_unfolding_all rfl) (by intro _; with_unfolding_all rfl) (by intro _; with_unfolding_all rfl) ?_
  refine SrcX.listN F.h ?_
  (repeat (first | with_reducible refine Ev.call ?_ (by with_unfolding_all rfl) (by with_unfolding_all rfl) (by with_unfolding_all rfl) | with_reducible refine Ev.b_sorted (by assumption) (by assumption) (by with_unfolding_all rfl) ⟨clb_bi, ?_⟩ | with_reducible refine Ar.cons ?_ (by with_unfolding_all rfl)))
  refine Ev.comp (n := n) (names := [Str.ofString "one"]) (dss := fun i => [.int i]) [(Str.ofString "dark", aD)] Option.none (fun _ i acc N' => ∃ es : List Addr, es.length = i ∧ acc = es.map V.ref ∧ (∀ a o, N a = some o → N' a = some o) ∧
      ∀ j, j < i → N' (es.getD j 0) = some (.list [.int (Lf j), .int (Pf j), .int j])) E ?_ rfl (by decide) (by intro _; with_unfolding_all rfl) (by intro _; with_unfolding_all rfl) (by intro _; with_unfolding_all rfl) (by lia) ?_ ?_
  · have k1 : (NameKind.local == NameKind.free) = false := by decide
    have k2 : (NameKind.free == NameKind.free) = true := by decide
    simp [closureFor, cellOf_eq hDk, k1, k2]
  rotate_left
  · intro C c' env' i acc N' X E' hcells hi I9
    refine hideG fun G9 kG9 => ?_
    obtain ⟨es, hes, rfl, sub, hel⟩ := I9
    refine kG9 ?_
    clear kG9
    have F' := X.fit F
    have hB' := F'.B
    have hcl : env'.cells.lookup (Str.ofString "dark") = some aD := by rw [hcells]; with_unfolding_all rfl
    (repeat (first | with_reducible refine SnL.cons ?_ | with_reducible refine SnL.nil ?_ | with_reducible refine Tes.nil ?_ | with_reducible refine Sn.nm (by assumption) (by with_unfolding_all rfl) ?_))
    refine ⟨fun _ => ?_, nofun⟩
    (repeat (first | with_reducible refine Ev.bin ?_ | with_reducible refine Ev.sub ?_))
    refine Ev.ce E' (by with_unfolding_all rfl) hcl (.inl (sub _ _ nD)) ?_
    (repeat (first | with_reducible refine Ev.nm (by assumption) (by with_unfolding_all rfl) (by repeat (first | with_reducible assumption | with_reducible exact LM.put_same _ _ _ | with_reducible refine (LM.put_ne (by decide)).trans ?_ | with_unfolding_all rfl)) ?_))
    refine Sb.list (.inr (X.F _ _ fd)) (by lia) (by lia) (by rw [Int.toNat_natCast]; exact ref_get? (by lia)) ?_ (by with_unfolding_all rfl)
    (repeat (first | with_reducible refine Ev.nm (by assumption) (by with_unfolding_all rfl) (by repeat (first | with_reducible assumption | with_reducible exact LM.put_same _ _ _ | with_reducible refine (LM.put_ne (by decide)).trans ?_ | with_unfolding_all rfl)) ?_ | with_reducible refine Ev.list ?_ | with_reducible refine Ar.cons ?_ (by with_unfolding_all rfl) | with_reducible refine Ar.nil ?_))
    refine ⟨by simp, fun r0 hr0 => ?_⟩
    refine Bi.addL (.inr (X.F _ _ (fD i hi))) (.inl (NM.put_same _ _ _)) (by simp) fun r hr => ?_
    have sub2 : ∀ a o, N' a = some o → ((N'.put r0 (.list [.int i])).put r (.list ([.int (Lf i), .int (Pf i)] ++ [.int i]))) a = some o := fun a o e => NM.keep hr (NM.keep hr0 e)
    refine ⟨es ++ [r], by simp [hes], by simp, fun a o e => sub2 _ _ (sub a o e), fun j hj => ?_⟩
    by_cases h : j < i
    · rw [getD_lt (by lia)]
      exact sub2 _ _ (hel j h)
    · have e : j = i := by lia
      rw [e, getD_end es r 0 hes]
      exact NM.put_same _ _ _
  refine Src.range F.h (by lia) ?_
  (repeat (first | with_reducible refine Ev.call ?_ (by with_unfolding_all rfl) (by with_unfolding_all rfl) (by with_unfolding_all rfl) | with_reducible refine Ev.b_range (by assumption) (by assumption) (by with_unfolding_all rfl) ⟨clb_ty, ?_⟩ | with_reducible refine Ar.cons ?_ (by with_unfolding_all rfl)))
  refine Ev.ce E (by with_unfolding_all rfl) hC (.inl nC) ?_
  (repeat (first | with_reducible refine Ar.nil ?_))
  refine Ca.range1 fun ra hra => ?_
  refine ⟨ra, rfl, NM.put_same _ _ _, fun C _ _ => ⟨[], rfl, rfl, fun _ _ e => NM.keep hra e, fun j hj => by lia⟩, ?_⟩
  intro C D acc N1 I9 hD hacc
  refine hideG fun G9 kG9 => ?_
  obtain ⟨es, hes, rfl, sub, hel⟩ := I9
  refine kG9 ?_
  clear kG9
  (repeat (first | with_reducible refine Ar.nil ?_))
  refine Ca.sorted (rs := es) (cs := fun i => [.int (Lf i), .int (Pf i), .int i]) (key := fun i => 64 * Lf i + Pf i) (F.le (by decide)) (.inl (NM.put_same _ _ _)) (fun i r hr => ?_) (fun _ _ _ _ => len3 _ _ _ _ _ _) (fun _ _ _ _ => cmpIII)
    (fun i j hi hj => lexKey3 (hp i (by lia)) (hp j (by lia)) fun e1 e2 => inj i j (by lia) (by lia) (by rw [e1, e2])) (fun i j hi hj e => inj i j (by lia) (by lia) e) (by lia) (by lia) fun b hb rho hrho hpw => ?_
  · have hi : i < es.length := (List.getElem?_eq_some_iff.mp hr).1
    have e : es[i]? = some (es.getD i 0) := by rw [List.getD_eq_getElem?_getD, List.getElem?_eq_getElem hi]; rfl
    rw [e] at hr
    rw [← Option.some.inj hr]
    exact .inl (NM.keep hD (hel i (by lia)))
  rw [hes] at hrho
  have rl : rho.length = n := by rw [hrho.length_eq, List.length_range]
  refine ⟨b, _, rfl, NM.put_same _ _ _, by rw [List.length_map]; lia, fun _ i acc N' => acc = (rho.take i).map (fun j : Nat => V.int j) ∧ (∀ a o, N1 a = some o → N' a = some o), ?_, ?_, ?_⟩
  · intro C _ _
    refine ⟨rfl, fun a o e => ?_⟩
    have hab : a ≠ b := fun q => by rw [q] at e; rw [NM.keep hD e] at hb; cases hb
    exact (NM.del_ne hab).trans (NM.keep hb (NM.keep hD e))
  · rintro C D2 acc N2 ⟨rfl, sub2⟩ hD2 hacc2
    rw [List.length_map, List.take_length] at *
    have hDa : (N2.put D2 (.list (rho.map fun j : Nat => V.int j))) aO = some (.cell none) := NM.keep hD2 (sub2 _ _ (sub _ _ nO))
    refine Sn.ce E (by with_unfolding_all rfl) hO hDa ?_
    refine fin D2 rho _ hrho hpw (fun a o e h => (NM.put_ne h).trans (NM.keep hD2 (sub2 _ _ (sub a o e)))) (NM.put_same _ _ _) ?_ ?_
    · cases e : N D2 with
      | none => rfl
      | some o => rw [sub2 _ _ (sub _ _ e)] at hD2; cases hD2
    · refine (NM.put_ne fun q => ?_).trans (NM.put_same _ _ _)
      rw [← q, NM.put_same] at hDa; cases hDa
  · rintro C c' env' i acc N' X E' hcells hi ⟨rfl, sub2⟩
    rw [List.length_map] at hi
    have F' := X.fit F
    have hB' := F'.B
    (repeat (first | with_reducible refine SnL.cons ?_ | with_reducible refine SnL.nil ?_ | with_reducible refine Tes.nil ?_ | with_reducible refine Sn.nm (by assumption) (by with_unfolding_all rfl) ?_))
    refine ⟨fun _ => ?_, nofun⟩
    (repeat (first | with_reducible refine Ev.nm (by assumption) (by with_unfolding_all rfl) (by repeat (first | with_reducible assumption | with_reducible exact LM.put_same _ _ _ | with_reducible refine (LM.put_ne (by decide)).trans ?_ | with_unfolding_all rfl)) ?_ | with_reducible refine Ev.int ?_ | with_reducible refine Ev.sub ?_))
    have hri : rho.getD i 0 < n := List.mem_range.mp (hrho.mem_iff.mp (by rw [List.getD_eq_getElem?_getD, List.getElem?_eq_getElem hi]; exact List.getElem_mem _))
    have e : (rho.map fun i => V.ref (es.getD i 0)).getD i .none = .ref (es.getD (rho.getD i 0) 0) := by
      rw [List.getD_eq_getElem?_getD, List.getElem?_map, List.getElem?_eq_getElem hi, List.getD_eq_getElem?_getD (l := rho), List.getElem?_eq_getElem hi]; rfl
    rw [e]
    refine Sb.list (k := 2) (.inl (sub2 _ _ (hel _ hri))) (by decide) (by decide) (d := .int (rho.getD i 0)) rfl ?_ (by with_unfolding_all rfl)
    refine ⟨?_, sub2⟩
    rw [List.take_add_one, List.map_append, List.getElem?_eq_getElem hi, List.getD_eq_getElem?_getD, List.getElem?_eq_getElem hi]; rfl
end
end Mine
end PartA8
section PartA9
open PySem PySem.W PyProof.Rows
set_option linter.unusedVariables false
set_option maxRecDepth 100000
namespace Mine
theorem filter_take {rho : List Nat} {p : Nat → Bool} {k : Nat} (hk : k < rho.length) : (rho.take (k + 1)).filter p = (rho.take k).filter p ++ (if p (rho.getD k 0) = true then [rho.getD k 0] else []) := by
  rw [List.take_add_one, List.filter_append, List.getElem?_eq_getElem hk, List.getD_eq_getElem?_getD, List.getElem?_eq_getElem hk]
  simp only [Option.toList_some, Option.getD_some, List.filter_cons, List.filter_nil]
section
variable {prog : Program} {w : World} {c : Cx} {env : Env} {m : LM} {N : NM} {Pn Pb Pc : LM → NM → Prop} {Pr : V → LM → NM → Prop} {P : V → LM → NM → Prop}
theorem st14 {aC aW aO o lw : Addr} {n : Nat} {ws : List Addr} {rho : List Nat} {K : Nat → Nat} (E : FE env c lawSc) (hC : env.cells.lookup (Str.ofString "count") = some aC) (hW : env.cells.lookup (Str.ofString "lowest") = some aW) (hO : env.cells.lookup (Str.ofString "order") = some aO)
    (F : Fit w c 2) (h7 : n ≤ 7) (nC : N aC = some (.cell (some (.int n)))) (nW : N aW = some (.cell (some (.ref lw)))) (nO : N aO = some (.cell (some (.ref o)))) (fo : c.F o = some (.list (rho.map fun i : Nat => V.int i))) (fw : c.F lw = some (.list (ws.map V.ref))) (lw' : ws.length = n)
    (rows : ∀ i, i < n → Rd c N (ws.getD i 0) (.list ((List.range n).map fun j => V.int (low K i j : Nat)))) (hr : ∀ x ∈ rho, x < n) (lr : rho.length = n)
    (fin : ∀ sd (ss : List Addr) N', ss.length = n → (∀ a x, N a = some x → N' a = some x) → N' sd = some (.list (ss.map V.ref)) → (∀ i, i < n → N' (ss.getD i 0) = some (.list ((sidesF K rho i).map V.bool))) → Pn (m.put (Str.ofString "sides") (.ref sd)) N') : Ex prog w c env (lawS 14) m N Pn Pb Pc Pr := by
  have hB := F.B
  refine Ex.assignComp (n := n) (names := [Str.ofString "one"]) (dss := fun i => [.int i]) [(Str.ofString "order", aO), (Str.ofString "lowest", aW)] (some (Str.ofString "one")) (fun C i acc N' => ∃ ss : List Addr, ss.length = i ∧ acc = ss.map V.ref ∧ (∃ ov, N' (C + 1) = some (.cell ov)) ∧ (∀ a x, N a = some x → a ≠ C + 1 ∧ N' a = some x) ∧
      ∀ j, j < i → N' (ss.getD j 0) = some (.list ((sidesF K rho j).map V.bool))) E (by with_unfolding_all rfl) (swaps_local E.block (isLoc_k E (by with_unfolding_all rfl)) rfl (by decide)) ?_ rfl (by decide) (by intro _; with_unfolding_all rfl) (by intro _; with_unfolding_all rfl) (by intro _; with_unfolding_all rfl) (by lia) ?_ ?_
  · have k1 : (NameKind.local == NameKind.free) = false := by decide
    have k2 : (NameKind.free == NameKind.free) = true := by decide
    have k3 : (NameKind.cell == NameKind.free) = false := by decide
    simp [closureFor, cellOf_eq hO, cellOf_eq hW, k1, k2, k3]
  · refine Src.range F.h (by lia) ?_
    (repeat (first | with_reducible refine Ev.call ?_ (by with_unfolding_all rfl) (by with_unfolding_all rfl) (by with_unfolding_all rfl) | with_reducible refine Ev.b_range (by assumption) (by assumption) (by with_unfolding_all rfl) ⟨clb_ty, ?_⟩ | with_reducible refine Ar.cons ?_ (by with_unfolding_all rfl)))
    refine Ev.ce E (by with_unfolding_all rfl) hC (.inl nC) ?_
    (repeat (first | with_reducible refine Ar.nil ?_))
    refine Ca.range1 fun ra hra => ?_
    refine ⟨ra, rfl, NM.put_same _ _ _, fun C hC1 hC2 => ⟨[], rfl, rfl, ⟨none, NM.put_same _ _ _⟩, fun a x e => ?_, fun j hj => by lia⟩, ?_⟩
    · have e' := NM.keep (x := .rng 0 n 1) hra e
      exact ⟨(fun q => by rw [q, hC2] at e'; cases e'), NM.keep hC2 e'⟩
    · intro C D acc N' I9 hD hacc
      refine hideG fun G9 kG9 => ?_
      obtain ⟨ss, hss, rfl, _, sub, hel⟩ := I9
      refine kG9 ?_
      clear kG9
      exact fin D ss _ hss (fun a x e => NM.keep hD (sub a x e).2) (NM.put_same _ _ _) fun i hi => NM.keep hD (hel i hi)
  · intro C c' env' i acc N' X E' hcells hi I9
    refine hideG fun G9 kG9 => ?_
    obtain ⟨ss, hss, rfl, ⟨ov, hov⟩, sub, hel⟩ := I9
    refine kG9 ?_
    clear kG9
    have F' := X.fit F
    have hB' := F'.B
    have hc1 : env'.cells.lookup (Str.ofString "one") = some (C + 1) := by rw [hcells]; with_unfolding_all rfl
    have hc2 : env'.cells.lookup (Str.ofString "lowest") = some aW := by rw [hcells]; with_unfolding_all rfl
    have hc3 : env'.cells.lookup (Str.ofString "order") = some aO := by rw [hcells]; with_unfolding_all rfl
    refine SnL.cons ?_
    refine Sn.ce E' (by with_unfolding_all rfl) hc1 hov ?_
    have sub' : ∀ a x, N a = some x → a ≠ C + 1 ∧ (N'.put (C + 1) (.cell (some (.int i)))) a = some x := fun a x e => ⟨(sub a x e).1, (NM.put_ne (sub a x e).1).trans (sub a x e).2⟩
    have hel' : ∀ j, j < i → (N'.put (C + 1) (.cell (some (.int i)))) (ss.getD j 0) = some (.list ((sidesF K rho j).map V.bool)) := fun j hj => (NM.put_ne fun q => by
      have := hel j hj
      rw [q, hov] at this; cases this).trans (hel j hj)
    have hone := NM.put_same N' (C + 1) (.cell (some (.int i)))
    generalize N'.put (C + 1) (.cell (some (.int i))) = N2 at sub' hel' hone
    (repeat (first | with_reducible refine SnL.nil ?_ | with_reducible refine Tes.nil ?_))
    refine ⟨fun _ => ?_, nofun⟩
    refine Ev.comp (n := (rho.map fun i : Nat => V.int i).length) (names := [Str.ofString "top"]) (dss := fun k => [(rho.map fun i : Nat => V.int i).getD k .none]) [(Str.ofString "one", C + 1), (Str.ofString "lowest", aW)] Option.none (fun _ k acc N' => acc = ((rho.take k).filter fun t => decide (t ≠ i) && decide (low K t i = t)).map (fun t => V.bool (decide (t < i))) ∧ (∀ a x, N2 a = some x → N' a = some x)) E' ?_ rfl (by decide) (by intro _; with_unfolding_all rfl) (by intro _; with_unfolding_all rfl) (by intro _; with_unfolding_all rfl) (by rw [List.length_map]; lia) ?_ ?_
    · have k1 : (NameKind.local == NameKind.free) = false := by decide
      have k2 : (NameKind.free == NameKind.free) = true := by decide
      simp [closureFor, cellOf_eq hc1, cellOf_eq hc2, k1, k2]
    · refine Src.list F'.h ?_
      refine Ev.ce E' (by with_unfolding_all rfl) hc3 (.inl (sub' _ _ nO).2) ?_
      refine ⟨o, rfl, X.F _ _ fo, fun _ _ _ => ⟨rfl, fun _ _ e => e⟩, ?_⟩
      rintro C2 D acc N3 ⟨rfl, sub3⟩ hD hacc
      rw [List.length_map, List.take_length]
      refine ⟨ss ++ [D], by simp [hss], by simp, ⟨_, NM.keep hD (sub3 _ _ hone)⟩, fun a x e => ⟨(sub' a x e).1, NM.keep hD (sub3 _ _ (sub' a x e).2)⟩, fun j hj => ?_⟩
      by_cases h : j < i
      · rw [getD_lt (by lia)]
        exact NM.keep hD (sub3 _ _ (hel' j h))
      · have e : j = i := by lia
        rw [e, getD_end ss D 0 hss, NM.put_same]
        unfold sidesF
        rw [List.map_map]; rfl
    · rintro C2 c2 env2 k acc N3 X2 E2 hcells2 hk ⟨rfl, sub3⟩
      rw [List.length_map] at hk
      have F2 := X2.fit F'
      have hB2 := F2.B
      have hd1 : env2.cells.lookup (Str.ofString "one") = some (C + 1) := by rw [hcells2]; with_unfolding_all rfl
      have hd2 : env2.cells.lookup (Str.ofString "lowest") = some aW := by rw [hcells2]; with_unfolding_all rfl
      have gk : (rho.map fun i : Nat => V.int i).getD k .none = .int (rho.getD k 0) := by
        rw [List.getD_eq_getElem?_getD, List.getElem?_map, List.getElem?_eq_getElem hk, List.getD_eq_getElem?_getD, List.getElem?_eq_getElem hk]; rfl
      have ht : rho.getD k 0 < n := hr _ (by rw [List.getD_eq_getElem?_getD, List.getElem?_eq_getElem hk]; exact List.getElem_mem _)
      have ft := filter_take (p := fun t => decide (t ≠ i) && decide (low K t i = t)) hk
      rw [gk]
      generalize rho.getD k 0 = t at ht ft
      (repeat (first | with_reducible refine Ev.nm (by assumption) (by with_unfolding_all rfl) (by repeat (first | with_reducible assumption | with_reducible exact LM.put_same _ _ _ | with_reducible refine (LM.put_ne (by decide)).trans ?_ | with_unfolding_all rfl)) ?_ | with_reducible refine SnL.cons ?_ | with_reducible refine SnL.nil ?_ | with_reducible refine Tes.one ?_ | with_reducible refine Sn.nm (by assumption) (by with_unfolding_all rfl) ?_ | with_reducible refine Te.cmp ?_ (by with_unfolding_all rfl) | with_reducible refine Te.and ?_))
      refine Ev.ce E2 (by with_unfolding_all rfl) hd1 (.inl (sub3 _ _ hone)) ?_
      (repeat (first | with_reducible refine Cp.neI ?_ | with_reducible refine Tu.bool ?_))
      refine ⟨fun q1 => ?_, fun q1 => ?_⟩
      · have q1 : t ≠ i := fun e => by rw [e] at q1; simp at q1
        (repeat (first | with_reducible refine Ev.sub ?_ | with_reducible refine Te.cmp ?_ (by with_unfolding_all rfl) | with_reducible refine Te.and ?_))
        refine Ev.ce E2 (by with_unfolding_all rfl) hd2 (.inl (sub3 _ _ (sub' _ _ nW).2)) ?_
        (repeat (first | with_reducible refine Ev.nm (by assumption) (by with_unfolding_all rfl) (by repeat (first | with_reducible assumption | with_reducible exact LM.put_same _ _ _ | with_reducible refine (LM.put_ne (by decide)).trans ?_ | with_unfolding_all rfl)) ?_))
        refine Sb.list (.inr (X2.F _ _ (X.F _ _ fw))) (by lia) (by lia) (by rw [Int.toNat_natCast]; exact ref_get? (by lia)) ?_ (by with_unfolding_all rfl)
        refine Ev.ce E2 (by with_unfolding_all rfl) hd1 (.inl (sub3 _ _ hone)) ?_
        refine Sb.list (d := .int (low K t i : Nat)) ((rows t ht).imp (fun e => sub3 _ _ (sub' _ _ e).2) fun e => X2.F _ _ (X.F _ _ e)) (by lia) (by lia) (by rw [Int.toNat_natCast, List.getElem?_map, List.getElem?_range hi]; rfl) ?_ (by with_unfolding_all rfl)
        (repeat (first | with_reducible refine Ev.nm (by assumption) (by with_unfolding_all rfl) (by repeat (first | with_reducible assumption | with_reducible exact LM.put_same _ _ _ | with_reducible refine (LM.put_ne (by decide)).trans ?_ | with_unfolding_all rfl)) ?_ | with_reducible refine Cp.eqI ?_ | with_reducible refine Tu.bool ?_))
        refine ⟨fun q2 => ?_, fun q2 => ?_⟩
        · have q2 : low K t i = t := by have := beq_iff_eq.mp q2; lia
          (repeat (first | with_reducible refine Te.and0 ?_))
          refine ⟨fun _ => ?_, nofun⟩
          (repeat (first | with_reducible refine Ev.cmp ?_ (by with_unfolding_all rfl)))
          refine Ev.ce E2 (by with_unfolding_all rfl) hd1 (.inl (sub3 _ _ hone)) ?_
          (repeat (first | with_reducible refine Ev.nm (by assumption) (by with_unfolding_all rfl) (by repeat (first | with_reducible assumption | with_reducible exact LM.put_same _ _ _ | with_reducible refine (LM.put_ne (by decide)).trans ?_ | with_unfolding_all rfl)) ?_ | with_reducible refine Cp.gtI ?_))
          refine ⟨?_, sub3⟩
          rw [ft, if_pos (by simp [q1, q2]), List.map_append]
          congr 1
          show [V.bool (decide ((t : Int) < (i : Int)))] = [V.bool (decide (t < i))]
          congr 2
          exact decide_eq_decide.mpr (by lia)
        · have q2 : ¬ low K t i = t := fun e => by rw [e] at q2; simp at q2
          refine ⟨nofun, fun _ => ⟨?_, sub3⟩⟩
          rw [ft, if_neg (by simp [q2]), List.append_nil]
      · have q1 : t = i := by
          have : ¬ ((t : Int) != (i : Int)) = true := by rw [q1]; simp
          simp at this; lia
        refine ⟨nofun, fun _ => ⟨?_, sub3⟩⟩
        rw [ft, if_neg (by simp [q1]), List.append_nil]
end
end Mine
end PartA9
section PartA10
open PySem PySem.W PyProof.Rows
set_option linter.unusedVariables false
set_option maxRecDepth 100000
namespace Mine
theorem hamK_all (u v : List Bool) : hamK u v (min u.length v.length) = ham u v := by
  rcases Nat.le_total u.length v.length with h | h
  · rw [Nat.min_eq_left h]; exact hamK_top h
  · rw [Nat.min_eq_right h]
    have := hamK_top h
    unfold hamK at *
    rw [ham_comm, this, ham_comm]
theorem bool_get {u : List Bool} {i : Nat} (h : i < u.length) : (u.map V.bool).getD i .none = .bool u[i] := by
  rw [List.getD_eq_getElem?_getD, List.getElem?_map, List.getElem?_eq_getElem h]; rfl
section
variable {prog : Program} {w : World} {c : Cx} {env : Env} {m : LM} {N : NM} {Pn Pb Pc : LM → NM → Prop} {Pr : V → LM → NM → Prop} {P : V → LM → NM → Prop}
open PySem.SeqAt in
theorem Cp.neB {a b : Bool} (h : P (.bool (a != b)) m N) : Cp prog w c .NotEq (.bool a) (.bool b) m N P := by
  rintro τ _ _ rfl rfl
  refine ⟨fun H tk S => ?_⟩
  exact RcNeAt.bool_bool (A := c.A) (s := c.s H tk) a b prog w _ _ (Out.val (d := .bool _) S rfl h)
theorem st15 {aC h sd : Addr} {n : Nat} {H ss : List Addr} {Pf : Nat → Nat} {U : Nat → List Bool} (E : FE env c lawSc) (hC : env.cells.lookup (Str.ofString "count") = some aC) (F : Fit w c 3) (h7 : n ≤ 7) (nC : N aC = some (.cell (some (.int n))))
    (m1 : m (Str.ofString "hung") = some (.ref h)) (m2 : m (Str.ofString "sides") = some (.ref sd)) (f1 : c.F h = some (.list (H.map V.ref))) (lH : H.length = n) (f2 : c.F sd = some (.list (ss.map V.ref))) (ls : ss.length = n)
    (e1 : ∀ i, i < n → c.F (H.getD i 0) = some (.list [.flt (fl (Pf i)), .str (sx (wd 0 (U i)))])) (e2 : ∀ i, i < n → c.F (ss.getD i 0) = some (.list ((U i).map V.bool))) (hU : ∀ i, i < n → (U i).length ≤ 6)
    (fin : ∀ m' N', Pn m' N') : Ex prog w c env (lawS 15) m N Pn Pb Pc Pr := by
  have hB := F.B
  refine Ex.forRange n 0 (fun i0 m' N' => m' (Str.ofString "hung") = some (.ref h) ∧ m' (Str.ofString "sides") = some (.ref sd)) F.h E.L E.kind (isLoc_k E (by with_unfolding_all rfl)) ?_ ?_ ?_ ?_
  · (repeat (first | with_reducible refine Ev.call ?_ (by with_unfolding_all rfl) (by with_unfolding_all rfl) (by with_unfolding_all rfl) | with_reducible refine Ev.b_range (by assumption) (by assumption) (by with_unfolding_all rfl) ⟨clb_ty, ?_⟩ | with_reducible refine Ar.cons ?_ (by with_unfolding_all rfl)))
    refine Ev.ce E (by with_unfolding_all rfl) hC (.inl nC) ?_
    (repeat (first | with_reducible refine Ar.nil ?_))
    refine Ca.range1 fun ra hra => ?_
    exact ⟨ra, _, rfl, NM.put_same _ _ _, by lia, by lia, by lia, by lia, by lia, m1, m2⟩
  · rintro c' i0 m5 N5 X hi0 ⟨q1, q2⟩
    have E' := E.ext X
    have F' := F.ext X
    have hB' := F'.B
    have e0 : (0 : Int) + (i0 : Nat) = i0 := by lia
    rw [e0]
    refine Es.cons ?_
    refine Ex.cut (fun _ _ m' N' => m' (Str.ofString "hung") = some (.ref h) ∧ m' (Str.ofString "sides") = some (.ref sd)) ?_ ?_
    rotate_left
    · rintro m6 N6 ⟨r1, r2⟩
      (repeat (first | with_reducible refine Es.nil ?_))
      exact ⟨r1, r2⟩
    refine Ex.forRange i0 0 (fun j m' N' => m' (Str.ofString "hung") = some (.ref h) ∧ m' (Str.ofString "sides") = some (.ref sd) ∧ m' (Str.ofString "one") = some (.int i0)) F'.h E'.L E'.kind (isLoc_k E' (by with_unfolding_all rfl)) ?_ ?_ ?_ ?_
    · (repeat (first | with_reducible refine Ev.nm (by assumption) (by with_unfolding_all rfl) (by repeat (first | with_reducible assumption | with_reducible exact LM.put_same _ _ _ | with_reducible refine (LM.put_ne (by decide)).trans ?_ | with_unfolding_all rfl)) ?_ | with_reducible refine Ev.call ?_ (by with_unfolding_all rfl) (by with_unfolding_all rfl) (by with_unfolding_all rfl) | with_reducible refine Ev.b_range (by assumption) (by assumption) (by with_unfolding_all rfl) ⟨clb_ty, ?_⟩ | with_reducible refine Ar.cons ?_ (by with_unfolding_all rfl) | with_reducible refine Ar.nil ?_))
      refine Ca.range1 fun ra hra => ?_
      refine ⟨ra, _, rfl, NM.put_same _ _ _, by lia, by lia, by lia, by lia, by lia, ?_, ?_, ?_⟩
      · (repeat (first | with_reducible assumption | with_reducible exact LM.put_same _ _ _ | with_reducible refine (LM.put_ne (by decide)).trans ?_))
      · (repeat (first | with_reducible assumption | with_reducible exact LM.put_same _ _ _ | with_reducible refine (LM.put_ne (by decide)).trans ?_))
      · (repeat (first | with_reducible assumption | with_reducible exact LM.put_same _ _ _ | with_reducible refine (LM.put_ne (by decide)).trans ?_))
    · rintro c2 j m6 N6 X2 hj ⟨s1, s2, s3⟩
      have E2 := E'.ext X2
      have F2 := F'.ext X2
      have hB2 := F2.B
      have e1' : (0 : Int) + (j : Nat) = j := by lia
      rw [e1']
      have hjn : j < n := by lia
      have fF : ∀ a o, c.F a = some o → c2.F a = some o := fun a o e => X2.F _ _ (X.F _ _ e)
      (repeat (first | with_reducible refine Ev.nm (by assumption) (by with_unfolding_all rfl) (by repeat (first | with_reducible assumption | with_reducible exact LM.put_same _ _ _ | with_reducible refine (LM.put_ne (by decide)).trans ?_ | with_unfolding_all rfl)) ?_ | with_reducible refine Ev.bin ?_ | with_reducible refine Ev.int ?_ | with_reducible refine Ev.sub ?_ | with_reducible refine Ev.call ?_ (by with_unfolding_all rfl) (by with_unfolding_all rfl) (by with_unfolding_all rfl) | with_reducible refine Ev.b_len (by assumption) (by assumption) (by with_unfolding_all rfl) ⟨clb_bi, ?_⟩ | with_reducible refine Ev.b_abs (by assumption) (by assumption) (by with_unfolding_all rfl) ⟨clb_bi, ?_⟩ | with_reducible refine Es.cons ?_ | with_reducible refine Ar.cons ?_ (by with_unfolding_all rfl) | with_reducible refine Ex.assign ?_ (by with_unfolding_all rfl)))
      refine Sb.list (.inr (fF _ _ f2)) (by lia) (by lia) (by rw [Int.toNat_natCast]; exact ref_get? (by lia)) ?_ (by with_unfolding_all rfl)
      (repeat (first | with_reducible refine Ar.nil ?_))
      refine Ca.lenL (.inr (fF _ _ (e2 i0 hi0))) (by rw [List.length_map]; have := hU i0 hi0; lia) ?_
      (repeat (first | with_reducible refine Ev.nm (by assumption) (by with_unfolding_all rfl) (by repeat (first | with_reducible assumption | with_reducible exact LM.put_same _ _ _ | with_reducible refine (LM.put_ne (by decide)).trans ?_ | with_unfolding_all rfl)) ?_ | with_reducible refine Ev.sub ?_ | with_reducible refine Ev.call ?_ (by with_unfolding_all rfl) (by with_unfolding_all rfl) (by with_unfolding_all rfl) | with_reducible refine Ev.b_len (by assumption) (by assumption) (by with_unfolding_all rfl) ⟨clb_bi, ?_⟩ | with_reducible refine Ar.cons ?_ (by with_unfolding_all rfl)))
      refine Sb.list (.inr (fF _ _ f2)) (by lia) (by lia) (by rw [Int.toNat_natCast]; exact ref_get? (by lia)) ?_ (by with_unfolding_all rfl)
      (repeat (first | with_reducible refine Ar.nil ?_))
      refine Ca.lenL (.inr (fF _ _ (e2 j hjn))) (by rw [List.length_map]; have := hU j hjn; lia) ?_
      (repeat (first | with_reducible refine Bi.subI ?_ | with_reducible refine Ar.nil ?_))
      refine Ca.absI ?_
      rw [List.length_map, List.length_map]
      (repeat (first | with_reducible refine Ev.nm (by assumption) (by with_unfolding_all rfl) (by repeat (first | with_reducible assumption | with_reducible exact LM.put_same _ _ _ | with_reducible refine (LM.put_ne (by decide)).trans ?_ | with_unfolding_all rfl)) ?_ | with_reducible refine Ev.bin ?_ | with_reducible refine Ev.call ?_ (by with_unfolding_all rfl) (by with_unfolding_all rfl) (by with_unfolding_all rfl) | with_reducible refine Ev.b_len (by assumption) (by assumption) (by with_unfolding_all rfl) ⟨clb_bi, ?_⟩ | with_reducible refine Bi.mulI (by decide) (by decide) ?_ | with_reducible refine Es.cons ?_ | with_reducible refine Ar.cons ?_ (by with_unfolding_all rfl) | with_reducible refine Sn.nm (by assumption) (by with_unfolding_all rfl) ?_ | with_reducible refine Ex.assign ?_ (by with_unfolding_all rfl)))
      refine Ev.comp (n := min ((U i0).map V.bool).length ((U j).map V.bool).length) (names := [Str.ofString "x", Str.ofString "y"]) (dss := fun i => [((U i0).map V.bool).getD i .none, ((U j).map V.bool).getD i .none]) [] Option.none (fun _ k acc N' => acc = List.replicate (hamK (U i0) (U j) k) (.int 1)) E2 (clos0 (by decide)) rfl (by decide) (by intro _; with_unfolding_all rfl) (by intro _; with_unfolding_all rfl) (by intro _; with_unfolding_all rfl) (by rw [List.length_map]; have := hU i0 hi0; lia) ?_ ?_
      rotate_left
      · rintro C c3 env3 k acc N7 X3 E3 hcells hk rfl
        rw [List.length_map, List.length_map] at hk
        have F3 := X3.fit F2
        have hB3 := F3.B
        have k1 : k < (U i0).length := by lia
        have k2 : k < (U j).length := by lia
        rw [bool_get k1, bool_get k2]
        (repeat (first | with_reducible refine Ev.nm (by assumption) (by with_unfolding_all rfl) (by repeat (first | with_reducible assumption | with_reducible exact LM.put_same _ _ _ | with_reducible refine (LM.put_ne (by decide)).trans ?_ | with_unfolding_all rfl)) ?_ | with_reducible refine SnL.cons ?_ | with_reducible refine SnL.nil ?_ | with_reducible refine Tes.one ?_ | with_reducible refine Sn.nm (by assumption) (by with_unfolding_all rfl) ?_ | with_reducible refine Te.cmp ?_ (by with_unfolding_all rfl)))
        refine Cp.neB ?_
        (repeat (first | with_reducible refine Tu.bool ?_))
        have hs := hamK_succ (List.getElem?_eq_getElem k1) (List.getElem?_eq_getElem k2)
        refine ⟨fun q => ?_, fun q => ?_⟩
        · (repeat (first | with_reducible refine Ev.int ?_))
          rw [hs, if_neg (by simpa using q)]
          simp [List.replicate_succ']
        · rw [hs, if_pos (by simpa using q)]; rfl
      refine Src.zip [(Str.ofString "x", ⟨177, 35, 177, 36⟩), (Str.ofString "y", ⟨177, 38, 177, 39⟩)] F2.h hB2 ?_ (by with_unfolding_all rfl) (by with_unfolding_all rfl) (by with_unfolding_all rfl) rfl (fun _ => by with_unfolding_all rfl) (fun _ => by with_unfolding_all rfl)
      refine Ev.bi E2 hB2 (by with_unfolding_all rfl) (d := .ty "zip") rfl boot_zip' (fun _ => rfl) ⟨rfl, ?_⟩
      (repeat (first | with_reducible refine Ev.nm (by assumption) (by with_unfolding_all rfl) (by repeat (first | with_reducible assumption | with_reducible exact LM.put_same _ _ _ | with_reducible refine (LM.put_ne (by decide)).trans ?_ | with_unfolding_all rfl)) ?_ | with_reducible refine Ev.sub ?_ | with_reducible refine Ar.cons ?_ (by with_unfolding_all rfl)))
      refine Sb.list (.inr (fF _ _ f2)) (by lia) (by lia) (by rw [Int.toNat_natCast]; exact ref_get? (by lia)) ?_ (by with_unfolding_all rfl)
      (repeat (first | with_reducible refine Ev.nm (by assumption) (by with_unfolding_all rfl) (by repeat (first | with_reducible assumption | with_reducible exact LM.put_same _ _ _ | with_reducible refine (LM.put_ne (by decide)).trans ?_ | with_unfolding_all rfl)) ?_ | with_reducible refine Ev.sub ?_ | with_reducible refine Ar.cons ?_ (by with_unfolding_all rfl)))
      refine Sb.list (.inr (fF _ _ f2)) (by lia) (by lia) (by rw [Int.toNat_natCast]; exact ref_get? (by lia)) ?_ (by with_unfolding_all rfl)
      (repeat (first | with_reducible refine Ar.nil ?_))
      refine ⟨_, _, rfl, fF _ _ (e2 i0 hi0), fF _ _ (e2 j hjn), fun C _ _ => by simp [hamK, ham], ?_⟩
      rintro C D acc N7 rfl hD hacc
      rw [List.length_map, List.length_map, hamK_all]
      (repeat (first | with_reducible refine Ar.nil ?_))
      refine Ca.lenL (.inl (NM.put_same _ _ _)) ?_ ?_
      · rw [List.length_map, List.length_map, hamK_all] at hacc
        have := hU i0 hi0
        lia
      rw [List.length_replicate]
      (repeat (first | with_reducible refine Bi.addI ?_ | with_reducible refine Es.cons ?_ | with_reducible refine Sn.nm (by assumption) (by with_unfolding_all rfl) ?_))
      have edue : (2 * (if ((U i0).length : Int) - ((U j).length : Int) < 0 then -(((U i0).length : Int) - ((U j).length : Int)) else ((U i0).length : Int) - ((U j).length : Int))) + ((ham (U i0) (U j) : Nat) : Int) = ((due (U i0) (U j) : Nat) : Int) := by
        unfold due
        split <;> lia
      rw [edue]
      refine Ex.if ?_
      (repeat (first | with_reducible refine Ev.nm (by assumption) (by with_unfolding_all rfl) (by repeat (first | with_reducible assumption | with_reducible exact LM.put_same _ _ _ | with_reducible refine (LM.put_ne (by decide)).trans ?_ | with_unfolding_all rfl)) ?_ | with_reducible refine Ev.sub ?_ | with_reducible refine Ev.call ?_ (by with_unfolding_all rfl) (by with_unfolding_all rfl) (by with_unfolding_all rfl) | with_reducible refine Ev.g_levenshtein_distance (by assumption) (by assumption) (by with_unfolding_all rfl) ⟨clb_lev (by assumption), ?_⟩ | with_reducible refine Ar.cons ?_ (by with_unfolding_all rfl) | with_reducible refine Te.cmp ?_ (by with_unfolding_all rfl)))
      refine Sb.list (.inr (fF _ _ f1)) (by lia) (by lia) (by rw [Int.toNat_natCast]; exact ref_get? (by lia)) ?_ (by with_unfolding_all rfl)
      (repeat (first | with_reducible refine Ev.int ?_))
      refine Sb.list (k := 1) (.inr (fF _ _ (e1 i0 hi0))) (by decide) (by decide) (d := .str (sx (wd 0 (U i0)))) rfl ?_ (by with_unfolding_all rfl)
      (repeat (first | with_reducible refine Ev.nm (by assumption) (by with_unfolding_all rfl) (by repeat (first | with_reducible assumption | with_reducible exact LM.put_same _ _ _ | with_reducible refine (LM.put_ne (by decide)).trans ?_ | with_unfolding_all rfl)) ?_ | with_reducible refine Ev.sub ?_ | with_reducible refine Ar.cons ?_ (by with_unfolding_all rfl)))
      refine Sb.list (.inr (fF _ _ f1)) (by lia) (by lia) (by rw [Int.toNat_natCast]; exact ref_get? (by lia)) ?_ (by with_unfolding_all rfl)
      (repeat (first | with_reducible refine Ev.int ?_))
      refine Sb.list (k := 1) (.inr (fF _ _ (e1 j hjn))) (by decide) (by decide) (d := .str (sx (wd 0 (U j)))) rfl ?_ (by with_unfolding_all rfl)
      (repeat (first | with_reducible refine Ev.nm (by assumption) (by with_unfolding_all rfl) (by repeat (first | with_reducible assumption | with_reducible exact LM.put_same _ _ _ | with_reducible refine (LM.put_ne (by decide)).trans ?_ | with_unfolding_all rfl)) ?_ | with_reducible refine Ar.cons ?_ (by with_unfolding_all rfl) | with_reducible refine Ar.nil ?_))
      refine lev_spec (F2.le (by decide)) (hU i0 hi0) (hU j hjn) rfl ?_
      (repeat (first | with_reducible refine Ev.nm (by assumption) (by with_unfolding_all rfl) (by repeat (first | with_reducible assumption | with_reducible exact LM.put_same _ _ _ | with_reducible refine (LM.put_ne (by decide)).trans ?_ | with_unfolding_all rfl)) ?_ | with_reducible refine Cp.neI ?_ | with_reducible refine Tu.bool ?_))
      have ne : (((due (U i0) (U j) : Nat) : Int) != ((due (U i0) (U j) : Nat) : Int)) = false := by simp
      rw [ne]
      refine ⟨nofun, fun _ => ?_⟩
      (repeat (first | with_reducible refine Es.nil ?_))
      refine ⟨?_, ?_, ?_⟩
      · (repeat (first | with_reducible assumption | with_reducible exact LM.put_same _ _ _ | with_reducible refine (LM.put_ne (by decide)).trans ?_))
      · (repeat (first | with_reducible assumption | with_reducible exact LM.put_same _ _ _ | with_reducible refine (LM.put_ne (by decide)).trans ?_))
      · (repeat (first | with_reducible assumption | with_reducible exact LM.put_same _ _ _ | with_reducible refine (LM.put_ne (by decide)).trans ?_))
    · rintro m6 N6 ⟨s1, s2, s3⟩
      exact ⟨s1, s2⟩
    · intro _; with_unfolding_all rfl
  · rintro m5 N5 _
    exact fin m5 N5
  · intro _; with_unfolding_all rfl
end
end Mine
end PartA10
section PartA11
open PySem PySem.W PyProof.Rows
set_option linter.unusedVariables false
set_option maxRecDepth 100000
namespace Mine
noncomputable def frz (fz : List Addr) (N : NM) : NM := fun a => if a ∈ fz then none else N a
theorem frz_cell {fz : List Addr} {N : NM} {a : Addr} {x : Option V} (h : N a = some (.cell x)) (hz : ∀ z ∈ fz, ∃ ds, N z = some (.list ds)) : frz fz N a = some (.cell x) := by
  unfold frz
  rw [if_neg]
  · exact h
  · intro q
    obtain ⟨ds, e⟩ := hz a q
    rw [h] at e; cases e
theorem all_list {N : NM} {A : List Addr} {n : Nat} {f : Nat → List V} (hl : A.length = n) (h : ∀ i, i < n → N (A.getD i 0) = some (.list (f i))) : ∀ z ∈ A, ∃ ds, N z = some (.list ds) := fun z hz => by
  obtain ⟨i, hi, e⟩ := List.getElem_of_mem hz
  have := h i (by lia)
  rw [List.getD_eq_getElem?_getD, List.getElem?_eq_getElem hi, Option.getD_some, e] at this
  exact ⟨_, this⟩
theorem mem_getD {A : List Addr} {i : Nat} (h : i < A.length) : A.getD i 0 ∈ A := by rw [List.getD_eq_getElem?_getD, List.getElem?_eq_getElem h]; exact List.getElem_mem _
theorem map_getD' {α : Type} {p : List Nat} {f : Nat → Addr} {i : Nat} (h : i < p.length) : (p.map f).getD i 0 = f (p.getD i 0) := by
  rw [List.getD_eq_getElem?_getD, List.getElem?_map, List.getElem?_eq_getElem h, List.getD_eq_getElem?_getD, List.getElem?_eq_getElem h]; rfl
section
variable {prog : Program} {w : World} {c : Cx} {env : Env} {m : LM} {N : NM} {Pn Pb Pc : LM → NM → Prop} {Pr : V → LM → NM → Prop} {P : V → LM → NM → Prop}
theorem law_tail {aC aT aD aW aO sp td : Addr} {n : Nat} {ps ls ks : List Nat} {rs : List Addr} (E : FE env c lawSc) (hcells : env.cells = [(Str.ofString "order", aO), (Str.ofString "lowest", aW), (Str.ofString "dark", aD), (Str.ofString "tree", aT), (Str.ofString "count", aC)])
    (F : Fit w c 3) (h5 : 5 ≤ n) (h7 : n ≤ 7) (lp : ps.length = n) (ll : ls.length = ps.length) (rl : rs.length = ps.length) (nd : ps.Nodup) (p64 : ∀ p ∈ ps, p < 64)
    (m3 : m (Str.ofString "spots") = some (.ref sp)) (n2 : N sp = some (.list (rs.map V.ref))) (inn : ∀ i, i < ps.length → N (rs.getD i 0) = some (.list [.int (ps.getD i 0), .int (ls.getD i 0)]))
    (nt : N td = some (.dict (tr (ks.map (· % 64))))) (htd : td ≠ sysModules) (nC : N aC = some (.cell (some (.int n)))) (nT : N aT = some (.cell (some (.ref td)))) (nD : N aD = some (.cell none)) (nW : N aW = some (.cell none)) (nO : N aO = some (.cell none))
    (d1 : aC ≠ aD) (d2 : aC ≠ aW) (d3 : aC ≠ aO) (d4 : aD ≠ aW) (d5 : aD ≠ aO) (d6 : aW ≠ aO) (hk : ks.Perm (keysOf ps ls)) (hkw : ks.Pairwise (· < ·)) :
    Es prog w c env [lawS 7, lawS 8, lawS 9, lawS 10, lawS 11, lawS 12, lawS 13, lawS 14, lawS 15, lawS 16] m N Pn Pb Pc (fun d _ _ => d = .bool true) := by
  have hC : env.cells.lookup (Str.ofString "count") = some aC := by rw [hcells]; with_unfolding_all rfl
  have hT : env.cells.lookup (Str.ofString "tree") = some aT := by rw [hcells]; with_unfolding_all rfl
  have hDk : env.cells.lookup (Str.ofString "dark") = some aD := by rw [hcells]; with_unfolding_all rfl
  have hW : env.cells.lookup (Str.ofString "lowest") = some aW := by rw [hcells]; with_unfolding_all rfl
  have hO : env.cells.lookup (Str.ofString "order") = some aO := by rw [hcells]; with_unfolding_all rfl
  have tp := ts_perm ll p64 hk
  have facts0 := fun sg pi => facts (sg := sg) (pi := pi) lp ll nd p64 hk hkw
  generalize ks.map (· % 64) = ts at *
  have tl : ts.length = n := by rw [tp.length_eq, lp]
  -- the tree stands
  refine Es.freeze [td] fun c1 X1 hF1 => ?_
  have E1 := E.ext X1
  have F1 := F.ext X1
  have keep1 : ∀ a o, N a = some o → (∀ es, o ≠ .dict es) → (fun a => if a ∈ [td] then none else N a) a = some o := fun a o e k => by
    show (if a ∈ [td] then none else N a) = some o
    rw [if_neg]
    · exact e
    · intro q
      rw [List.mem_singleton.mp q, nt] at e
      exact k _ (Option.some.inj e).symm
  generalize (fun a => if a ∈ [td] then none else N a) = N1 at keep1
  refine Es.cons (st7 E1 hT (F1.le (by decide)) (tp.nodup_iff.mpr nd) (fun t ht => p64 t (tp.mem_iff.mp ht)) (by lia) (by lia) htd (hF1 td (List.mem_singleton.mpr rfl) _ nt) (keep1 _ _ nT (fun _ => by simp)) fun h es sg N2 hsg hsw sub2 hh gh ges => ?_)
  refine Es.cons (st8 (sp := sp) (ps := ps) (ls := ls) (rs := rs) E1 (F1.le (by decide)) nd (by lia) (by lia) rl ((LM.put_ne (by decide)).trans m3) (sub2 _ _ (keep1 _ _ n2 (fun _ => by simp))) (fun i hi => sub2 _ _ (keep1 _ _ (inn i hi) (fun _ => by simp))) fun b pi N3 hpi hpw sub3 hb gb => ?_)
  have FA := facts0 sg pi hsg hsw hpi hpw
  have sgl : sg.length = n := by rw [hsg.length_eq, List.length_range, tl]
  have pil : pi.length = n := by rw [hpi.length_eq, List.length_range, lp]
  refine hideG fun G9 kG9 => ?_
  obtain ⟨tsn, _, ts64, hTT, pf64, mono, inj, ord⟩ := FA
  refine kG9 ?_
  clear kG9
  have hlH : ∀ i, i < n → N3 ((sg.map es).getD i 0) = some (.list [.flt (fl (ps.getD (pi.getD i 0) 0)), .str (sx (wd 0 (wpath (ts.take (sg.getD i 0)) (ts.getD (sg.getD i 0) 0))))]) := fun i hi => by
    rw [map_getD' (α := Nat) (by lia), ← hTT i hi]
    exact sub3 _ _ (ges _ (mem_lt hsg (by lia)))
  have hlS : ∀ i, i < n → N3 ((pi.map fun j => rs.getD j 0).getD i 0) = some (.list [.int (ps.getD (pi.getD i 0) 0), .int (ls.getD (pi.getD i 0) 0)]) := fun i hi => by
    rw [map_getD' (α := Nat) (by lia)]
    exact sub3 _ _ (sub2 _ _ (keep1 _ _ (inn _ (mem_lt hpi (by lia))) (fun _ => by simp)))
  have hgh : N3 h = some (.list ((sg.map es).map V.ref)) := by rw [List.map_map]; exact sub3 _ _ gh
  have hgb : N3 b = some (.list ((pi.map fun j => rs.getD j 0).map V.ref)) := by rw [List.map_map]; exact gb
  have lH : (sg.map es).length = n := by rw [List.length_map, sgl]
  have lS : (pi.map fun j => rs.getD j 0).length = n := by rw [List.length_map, pil]
  have cC := sub3 _ _ (sub2 _ _ (keep1 _ _ nC (fun _ => by simp)))
  have cD := sub3 _ _ (sub2 _ _ (keep1 _ _ nD (fun _ => by simp)))
  have cW := sub3 _ _ (sub2 _ _ (keep1 _ _ nW (fun _ => by simp)))
  have cO := sub3 _ _ (sub2 _ _ (keep1 _ _ nO (fun _ => by simp)))
  generalize sg.map es = H at hlH hgh lH
  generalize (pi.map fun j => rs.getD j 0) = S at hlS hgb lS
  clear ges gh gb sub3 sub2 keep1 inn n2 nt nC nT nD nW nO hF1
  generalize hPf : (fun i => ps.getD (pi.getD i 0) 0) = Pf at *
  generalize hLf : (fun i => ls.getD (pi.getD i 0) 0) = Lf at *
  have ePf : ∀ i, ps.getD (pi.getD i 0) 0 = Pf i := fun i => by rw [← hPf]
  have eLf : ∀ i, ls.getD (pi.getD i 0) 0 = Lf i := fun i => by rw [← hLf]
  simp only [ePf, eLf] at hlH hlS hTT pf64 mono inj ord
  generalize hU : (fun i => wpath (ts.take (sg.getD i 0)) (ts.getD (sg.getD i 0) 0)) = U at *
  have eU : ∀ i, wpath (ts.take (sg.getD i 0)) (ts.getD (sg.getD i 0) 0) = U i := fun i => by rw [← hU]
  have hU6 : ∀ i, i < n → (U i).length ≤ 6 := fun i hi => by
    rw [← eU]
    have := sdF_len [] (ts.take (sg.getD i 0)) (ts.getD (sg.getD i 0) 0)
    rw [List.length_take] at this
    have h2 := mem_lt (i := i) hsg (by lia)
    exact Nat.le_trans this (by lia)
  simp only [eU] at hlH ord
  -- hung and spots stand
  refine Es.freeze (h :: b :: (H ++ S)) fun c2 X2 hF2 => ?_
  have E2 := E1.ext X2
  have F2 := F1.ext X2
  have hz2 : ∀ z ∈ h :: b :: (H ++ S), ∃ ds, N3 z = some (.list ds) := fun z hz => by
    rcases List.mem_cons.mp hz with rfl | hz
    · exact ⟨_, hgh⟩
    rcases List.mem_cons.mp hz with rfl | hz
    · exact ⟨_, hgb⟩
    rcases List.mem_append.mp hz with hz | hz
    · exact all_list lH hlH z hz
    · exact all_list lS hlS z hz
  have fh := hF2 h (by simp) _ hgh
  have fb := hF2 b (by simp) _ hgb
  have fH : ∀ i, i < n → c2.F (H.getD i 0) = some (.list [.flt (fl (Pf i)), .str (sx (wd 0 (U i)))]) := fun i hi => hF2 _ (List.mem_cons_of_mem _ (List.mem_cons_of_mem _ (List.mem_append_left _ (mem_getD (by lia))))) _ (hlH i hi)
  have fS : ∀ i, i < n → c2.F (S.getD i 0) = some (.list [.int (Pf i), .int (Lf i)]) := fun i hi => hF2 _ (List.mem_cons_of_mem _ (List.mem_cons_of_mem _ (List.mem_append_right _ (mem_getD (by lia))))) _ (hlS i hi)
  have cC := frz_cell cC hz2
  have cD := frz_cell cD hz2
  have cW := frz_cell cW hz2
  have cO := frz_cell cO hz2
  show Es prog w c2 env _ _ (frz (h :: b :: (H ++ S)) N3) _ _ _ _
  generalize frz (h :: b :: (H ++ S)) N3 = N4 at cC cD cW cO
  clear hz2 hF2 hlH hlS hgh hgb
  have mh : ((m.put (Str.ofString "hung") (V.ref h)).put (Str.ofString "spots") (V.ref b)) (Str.ofString "hung") = some (.ref h) := (LM.put_ne (by decide)).trans (LM.put_same _ _ _)
  have mb : ((m.put (Str.ofString "hung") (V.ref h)).put (Str.ofString "spots") (V.ref b)) (Str.ofString "spots") = some (.ref b) := LM.put_same _ _ _
  generalize (m.put (Str.ofString "hung") (V.ref h)).put (Str.ofString "spots") (V.ref b) = m4 at mh mb
  refine Es.cons (st9 (Lf := Lf) E2 (F2.le (by decide)) h7 pf64 lH lS mh mb fh fb (fun i hi => .inr (fH i hi)) (fun i hi => .inr (fS i hi)) fun N5 sub5 => ?_)
  have cC := sub5 _ _ cC
  have cD := sub5 _ _ cD
  have cW := sub5 _ _ cW
  have cO := sub5 _ _ cO
  refine Es.cons (st10 E2 hDk (F2.le (by decide)) h7 lS mb fb (fun i hi => .inr (fS i hi)) cD fun d Ds N6 lD sub6 cD gd gDs => ?_)
  have cC := sub6 _ _ cC d1
  have cW := sub6 _ _ cW (Ne.symm d4)
  have cO := sub6 _ _ cO (Ne.symm d5)
  refine Es.freeze (d :: Ds) fun c3 X3 hF3 => ?_
  have E3 := E2.ext X3
  have F3 := F2.ext X3
  have hz3 : ∀ z ∈ d :: Ds, ∃ ds, N6 z = some (.list ds) := fun z hz => by
    rcases List.mem_cons.mp hz with rfl | hz
    · exact ⟨_, gd⟩
    · exact all_list lD gDs z hz
  have fd := hF3 d (by simp) _ gd
  have fD : ∀ i, i < n → c3.F (Ds.getD i 0) = some (.list [.int (Lf i), .int (Pf i)]) := fun i hi => hF3 _ (List.mem_cons_of_mem _ (mem_getD (by lia))) _ (gDs i hi)
  have cC := frz_cell cC hz3
  have cD := frz_cell cD hz3
  have cW := frz_cell cW hz3
  have cO := frz_cell cO hz3
  show Es prog w c3 env _ _ (frz (d :: Ds) N6) _ _ _ _
  generalize frz (d :: Ds) N6 = N7 at cC cD cW cO
  clear hz3 hF3 gd gDs
  refine Es.cons (st11 E3 hC hW (F3.le (by decide)) h7 cC cW fun lw ws N8 lws wnd wnew sub8 cW wn glw gws => ?_)
  have cC := sub8 _ _ cC d2
  have cD := sub8 _ _ cD d4
  have cO := sub8 _ _ cO (Ne.symm d6)
  refine Es.freeze [lw] fun c4 X4 hF4 => ?_
  have E4 := E3.ext X4
  have F4 := F3.ext X4
  have hz4 : ∀ z ∈ [lw], ∃ ds, N8 z = some (.list ds) := fun z hz => by rw [List.mem_singleton.mp hz]; exact ⟨_, glw⟩
  have flw := hF4 lw (by simp) _ glw
  have gws' : ∀ i, i < n → frz [lw] N8 (ws.getD i 0) = some (.list (List.replicate n (.int 0))) := fun i hi => by
    unfold frz
    rw [if_neg]
    · exact gws i hi
    · intro q
      exact (wnew _ (mem_getD (by lia))).2.1 (List.mem_singleton.mp q)
  have cC := frz_cell cC hz4
  have cD := frz_cell cD hz4
  have cW := frz_cell cW hz4
  have cO := frz_cell cO hz4
  show Es prog w c4 env _ _ (frz [lw] N8) _ _ _ _
  generalize frz [lw] N8 = N9 at cC cD cW cO gws'
  clear hz4 hF4 glw gws
  have cwn : ∀ a x, N9 a = some (.cell x) → a ∉ ws := fun a x e q => by
    obtain ⟨ds, e'⟩ := all_list lws gws' a q
    rw [e] at e'; cases e'
  refine Es.cons (st12 E4 hC hDk hW (F4.le (by decide)) h7 cC cD cW mh (X4.F _ _ fd) (fun i hi => X4.F _ _ (fD i hi)) flw lD lws wnd pf64 gws' fun m5 N10 mh5 ke rows => ?_)
  have cC := ke _ _ cC (cwn _ _ cC)
  have cD := ke _ _ cD (cwn _ _ cD)
  have cW := ke _ _ cW (cwn _ _ cW)
  have cO := ke _ _ cO (cwn _ _ cO)
  have wsO : ∀ i, i < n → ws.getD i 0 ≠ aO := fun i hi q => by
    have := rows i hi
    rw [q, cO] at this; cases this
  refine Es.cons (st13 E4 hC hDk hO (F4.le (by decide)) (by lia) h7 cC cD cO (X4.F _ _ fd) (fun i hi => X4.F _ _ (fD i hi)) lD pf64 inj fun o rho N11 hrho hrw sub11 cO on go => ?_)
  have cC := sub11 _ _ cC d3
  have cW := sub11 _ _ cW d6
  have rows' : ∀ i, i < n → N11 (ws.getD i 0) = some (.list ((List.range n).map fun j => V.int (low (fun i => 64 * Lf i + Pf i) i j : Nat))) := fun i hi => sub11 _ _ (rows i hi) (wsO i hi)
  have lrho : rho.length = n := by rw [hrho.length_eq, List.length_range]
  refine Es.freeze (o :: ws) fun c5 X5 hF5 => ?_
  have E5 := E4.ext X5
  have F5 := F4.ext X5
  have hz5 : ∀ z ∈ o :: ws, ∃ ds, N11 z = some (.list ds) := fun z hz => by
    rcases List.mem_cons.mp hz with rfl | hz
    · exact ⟨_, go⟩
    · exact all_list lws rows' z hz
  have fo := hF5 o (by simp) _ go
  have fws : ∀ i, i < n → c5.F (ws.getD i 0) = some (.list ((List.range n).map fun j => V.int (low (fun i => 64 * Lf i + Pf i) i j : Nat))) := fun i hi => hF5 _ (List.mem_cons_of_mem _ (mem_getD (by lia))) _ (rows' i hi)
  have cC := frz_cell cC hz5
  have cW := frz_cell cW hz5
  have cO := frz_cell cO hz5
  show Es prog w c5 env _ _ (frz (o :: ws) N11) _ _ _ _
  generalize frz (o :: ws) N11 = N12 at cC cW cO
  clear hz5 hF5 go rows'
  refine Es.cons (st14 E5 hC hW hO (F5.le (by decide)) h7 cC cW cO fo (X5.F _ _ flw) lws (fun i hi => .inr (fws i hi)) (fun x hx => List.mem_range.mp (hrho.mem_iff.mp hx)) lrho fun sd ss N13 lss sub13 gsd gss => ?_)
  have cC := sub13 _ _ cC
  have od := ord rho hrho hrw
  have gss' : ∀ i, i < n → N13 (ss.getD i 0) = some (.list ((U i).map V.bool)) := fun i hi => by rw [gss i hi, od i hi]
  refine Es.freeze (sd :: ss) fun c6 X6 hF6 => ?_
  have E6 := E5.ext X6
  have F6 := F5.ext X6
  have hz6 : ∀ z ∈ sd :: ss, ∃ ds, N13 z = some (.list ds) := fun z hz => by
    rcases List.mem_cons.mp hz with rfl | hz
    · exact ⟨_, gsd⟩
    · exact all_list lss gss' z hz
  have fsd := hF6 sd (by simp) _ gsd
  have fss : ∀ i, i < n → c6.F (ss.getD i 0) = some (.list ((U i).map V.bool)) := fun i hi => hF6 _ (List.mem_cons_of_mem _ (mem_getD (by lia))) _ (gss' i hi)
  have cC := frz_cell cC hz6
  show Es prog w c6 env _ _ (frz (sd :: ss) N13) _ _ _ _
  generalize frz (sd :: ss) N13 = N14 at cC
  have up : ∀ a x, c2.F a = some x → c6.F a = some x := fun a x e => X6.F _ _ (X5.F _ _ (X4.F _ _ (X3.F _ _ e)))
  refine Es.cons (st15 E6 hC F6 h7 cC ((LM.put_ne (by decide)).trans mh5) (LM.put_same _ _ _) (up _ _ fh) lH fsd lss (fun i hi => up _ _ (fH i hi)) fss hU6 fun m' N' => ?_)
  refine Es.cons ?_
  refine Ex.ret ?_
  exact Ev.bool rfl
end
end Mine
end PartA11
section PartA12
open PySem PySem.W PyProof.Rows
set_option linter.unusedVariables false
set_option maxRecDepth 100000
namespace Mine
section
variable {prog : Program} {w : World} {c : Cx} {env : Env} {m : LM} {N : NM} {Pn Pb Pc : LM → NM → Prop} {Pr : V → LM → NM → Prop} {P : V → LM → NM → Prop}
theorem law_body {aC aT aD aW aO aS : Addr} {n : Nat} {ns : List Int} (E : FE env c lawSc) (hcells : env.cells = [(Str.ofString "order", aO), (Str.ofString "lowest", aW), (Str.ofString "dark", aD), (Str.ofString "tree", aT), (Str.ofString "count", aC)])
    (F : Fit w c 3) (h5 : 5 ≤ n) (h7 : n ≤ 7) (hS : c.F aS = some (.list (ns.map V.int))) (hns : ns.length ≤ 63) (m1 : m (Str.ofString "script") = some (.ref aS))
    (nC : N aC = some (.cell (some (.int n)))) (nT : N aT = some (.cell none)) (nD : N aD = some (.cell none)) (nW : N aW = some (.cell none)) (nO : N aO = some (.cell none))
    (d1 : aC ≠ aD) (d2 : aC ≠ aW) (d3 : aC ≠ aO) (d4 : aD ≠ aW) (d5 : aD ≠ aO) (d6 : aW ≠ aO) (d7 : aT ≠ aC) (d8 : aT ≠ aD) (d9 : aT ≠ aW) (d10 : aT ≠ aO) :
    Es prog w c env [lawS 1, lawS 2, lawS 3, lawS 4, lawS 5, lawS 6, lawS 7, lawS 8, lawS 9, lawS 10, lawS 11, lawS 12, lawS 13, lawS 14, lawS 15, lawS 16] m N Pn Pb Pc (fun d _ _ => d = .bool true) := by
  have hB := F.B
  have hC : env.cells.lookup (Str.ofString "count") = some aC := by rw [hcells]; with_unfolding_all rfl
  have hT : env.cells.lookup (Str.ofString "tree") = some aT := by rw [hcells]; with_unfolding_all rfl
  refine Es.cons ?_
  refine Ex.assign ?_ (by with_unfolding_all rfl)
  (repeat (first | with_reducible refine Ev.list ?_ | with_reducible refine Ar.nil ?_))
  refine ⟨by simp, fun tk htk => ?_⟩
  (repeat (first | with_reducible refine Es.cons ?_ | with_reducible refine Sn.nm (by assumption) (by with_unfolding_all rfl) ?_))
  refine Ex.assign ?_ (by with_unfolding_all rfl)
  (repeat (first | with_reducible refine Ev.list ?_ | with_reducible refine Ar.nil ?_))
  refine ⟨by simp, fun sp hsp => ?_⟩
  (repeat (first | with_reducible refine Es.cons ?_ | with_reducible refine Sn.nm (by assumption) (by with_unfolding_all rfl) ?_))
  refine Ex.assign ?_ (by with_unfolding_all rfl)
  (repeat (first | with_reducible refine Ev.list ?_ | with_reducible refine Ar.nil ?_))
  refine ⟨by simp, fun hp hhp => ?_⟩
  (repeat (first | with_reducible refine Es.cons ?_ | with_reducible refine Sn.nm (by assumption) (by with_unfolding_all rfl) ?_))
  have h12 : tk ≠ sp := fun z => by rw [← z, NM.put_same] at hsp; cases hsp
  have h13 : tk ≠ hp := fun z => by rw [← z, NM.keep hsp (NM.put_same _ _ _)] at hhp; cases hhp
  have h23 : sp ≠ hp := fun z => by rw [← z, NM.put_same] at hhp; cases hhp
  have k3 : ∀ a o, N a = some o → (((N.put tk (.list [])).put sp (.list [])).put hp (.list [])) a = some o := fun a o e => NM.keep hhp (NM.keep hsp (NM.keep htk e))
  have t1 : (((N.put tk (.list [])).put sp (.list [])).put hp (.list [])) tk = some (.list []) := NM.keep hhp (NM.keep hsp (NM.put_same _ _ _))
  have t2 : (((N.put tk (.list [])).put sp (.list [])).put hp (.list [])) sp = some (.list []) := NM.keep hhp (NM.put_same _ _ _)
  have t3 : (((N.put tk (.list [])).put sp (.list [])).put hp (.list [])) hp = some (.list []) := NM.put_same _ _ _
  generalize ((N.put tk (.list [])).put sp (.list [])).put hp (.list []) = N3 at k3 t1 t2 t3
  refine loop1 E hC (F.le (by decide)) h7 hS hns h12 h13 h23 ?_ ?_ ?_ ?_ t1 t2 t3 (k3 _ _ nC) fun ps ls rs l m4 N4 lps I => ?_
  · (repeat (first | with_reducible assumption | with_reducible exact LM.put_same _ _ _ | with_reducible refine (LM.put_ne (by decide)).trans ?_))
  · (repeat (first | with_reducible assumption | with_reducible exact LM.put_same _ _ _ | with_reducible refine (LM.put_ne (by decide)).trans ?_))
  · (repeat (first | with_reducible assumption | with_reducible exact LM.put_same _ _ _ | with_reducible refine (LM.put_ne (by decide)).trans ?_))
  · (repeat (first | with_reducible assumption | with_reducible exact LM.put_same _ _ _ | with_reducible refine (LM.put_ne (by decide)).trans ?_))
  refine hideG fun G9 kG9 => ?_
  obtain ⟨rl, ll, nd, p64, l64, inn, q1, q2, q3, q4, r1, r2, r3, hhp', pm, ky, nl⟩ := I
  refine kG9 ?_
  clear kG9
  have cell : ∀ a x, N a = some (.cell x) → N4 a = some (.cell x) := fun a x e => nl _ _ (k3 _ _ e) fun _ => by simp
  -- tree = {}
  refine Es.cons ?_
  refine Ex.assign ?_ (by with_unfolding_all rfl)
  refine Ev.dict0 hB fun td htd hsm => ?_
  refine Sn.ce E (by with_unfolding_all rfl) hT (NM.keep htd (cell _ _ nT)) ?_
  have neT : ∀ a ds, N4 a = some (.list ds) → a ≠ aT := fun a ds e q => by rw [q, cell _ _ nT] at e; cases e
  have keepL : ∀ a ds, N4 a = some (.list ds) → ((N4.put td (.dict [])).put aT (.cell (some (.ref td)))) a = some (.list ds) := fun a ds e => (NM.put_ne (neT a ds e)).trans (NM.keep htd e)
  have keepC : ∀ a x, N a = some (.cell x) → a ≠ aT → ((N4.put td (.dict [])).put aT (.cell (some (.ref td)))) a = some (.cell x) := fun a x e h => (NM.put_ne h).trans (NM.keep htd (cell _ _ e))
  have hTd : td ≠ aT := fun q => by rw [q, cell _ _ nT] at htd; cases htd
  have gtd : ((N4.put td (.dict [])).put aT (.cell (some (.ref td)))) td = some (.dict []) := (NM.put_ne hTd).trans (NM.put_same _ _ _)
  have gT : ((N4.put td (.dict [])).put aT (.cell (some (.ref td)))) aT = some (.cell (some (.ref td))) := NM.put_same _ _ _
  have gky : ∀ x ∈ l, Ky c ((N4.put td (.dict [])).put aT (.cell (some (.ref td)))) x := fun x hx => ⟨(ky x hx).1, ((ky x hx).2.put_new htd).put (NM.keep htd (cell _ _ nT)) (by simp)⟩
  have hht : hp ≠ td := fun q => by rw [q, htd] at r3; cases r3
  have g3 := keepL _ _ r3
  have g2 := keepL _ _ r2
  have ginn : ∀ i, i < ps.length → rs.getD i 0 ≠ hp ∧ rs.getD i 0 ≠ td ∧ ((N4.put td (.dict [])).put aT (.cell (some (.ref td)))) (rs.getD i 0) = some (.list [.int (ps.getD i 0), .int (ls.getD i 0)]) := fun i hi => by
    refine hideG fun G9 kG9 => ?_
    obtain ⟨_, _, x3, x4⟩ := inn i hi
    refine kG9 ?_
    clear kG9
    exact ⟨x3, (fun q => by rw [q, htd] at x4; cases x4), keepL _ _ x4⟩
  have cC := keepC _ _ nC (Ne.symm d7)
  have cD := keepC _ _ nD (Ne.symm d8)
  have cW := keepC _ _ nW (Ne.symm d9)
  have cO := keepC _ _ nO (Ne.symm d10)
  have hst : sp ≠ td := fun q => by rw [q, htd] at r2; cases r2
  generalize (N4.put td (.dict [])).put aT (.cell (some (.ref td))) = N5 at gtd gT gky g3 g2 ginn cC cD cW cO
  have lA : (keysOf ps ls).length = n := by unfold keysOf; rw [List.length_zipWith, ll, lps]; lia
  have mA : (keysOf ps ls).map (· % 64) = ps := keys_mod ll p64
  refine Es.cons (loop2 E hC hT F h7 lA (by rw [mA]; exact nd) hsm hht q3 q4 g3 hhp' pm gky gtd cC gT fun ks l2 m6 N6 lks I => ?_)
  refine hideG fun G9 kG9 => ?_
  obtain ⟨w3, w4, v3, vt, _, vpm, vpw, _, _, ke⟩ := I
  refine kG9 ?_
  clear kG9
  have hl2 : l2 = [] := by
    have := vpm.length_eq
    rw [List.length_append, List.length_map, lA] at this
    exact List.eq_nil_of_length_eq_zero (by lia)
  subst hl2
  rw [List.map_nil, List.append_nil] at vpm
  have ex : ∀ a x, N5 a = some (.cell x) → N6 a = some (.cell x) := fun a x e => ke _ _ e fun q => by
    rcases List.mem_cons.mp q with h | h
    · rw [h, g3] at e; cases e
    · rw [List.mem_singleton.mp h, gtd] at e; cases e
  refine law_tail E hcells F h5 h7 lps ll rl nd p64 w3 (ke _ _ g2 fun q => ?_) (fun i hi => ke _ _ (ginn i hi).2.2 fun q => ?_) vt hsm (ex _ _ cC) (ex _ _ gT) (ex _ _ cD) (ex _ _ cW) (ex _ _ cO) d1 d2 d3 d4 d5 d6 vpm vpw
  · rcases List.mem_cons.mp q with h | h
    · exact h23 h
    · exact hst (List.mem_singleton.mp h)
  · rcases List.mem_cons.mp q with h | h
    · exact (ginn i hi).1 h
    · exact (ginn i hi).2.1 (List.mem_singleton.mp h)
end
end Mine
end PartA12
section PartA13
open PySem PySem.W PyProof.Rows
set_option linter.unusedVariables false
set_option maxRecDepth 100000
namespace Mine
section
variable {prog : Program} {w : World} {c : Cx} {env : Env} {m : LM} {N : NM} {Pn Pb Pc : LM → NM → Prop} {Pr : V → LM → NM → Prop} {P : V → LM → NM → Prop}
/- the first statement, begun where no token may have been drawn -/
theorem start_assign {τ : TM} {h : Heap} {tk : Nat} {x : Str} {pos pos' p1 p2 : Pos} {k : Nat} {i : Int} {op : Operator} {r : Expr} {rest : List Stmt} (S : St prog w c τ (tk + 1) h m N)
    (hr : Ev prog w c env r m N (fun b m1 N1 => Bi prog w c op (.int i) b m1 N1 (fun d m2 N2 => Sn prog w c env x d m2 N2 (fun m3 N3 => Es prog w c env rest m3 N3 Pn Pb Pc Pr))))
    (hs : swapsWith (.BinOp (.Constant (.int i) k p1) op r p2) (some (.Name x pos')) pos.line env = Pure.pure false) :
    wpAny (model prog w) c.A (execs (.Assign [.Name x pos'] (.BinOp (.Constant (.int i) k p1) op r p2) pos :: rest) env) (fun f s' => Out prog w c τ (fun τ' => FP Pn Pb Pc Pr τ' f) s') (fun _ _ => False) (c.s h tk) := by
  refine wpAny_bind (wpAny_Assign_Name (wpAny_BinOp (wpAny_Constant_int ?_)) hs)
  refine wgo2 ((hr τ).run h (tk + 1) S) (fun vb τ1 h1 tk1 m1 N1 l1 S1 b hb q => ?_)
  refine wgo2 ((q τ1 _ vb ⟨tk, rfl⟩ hb).run h1 tk1 S1) (fun v τ2 h2 tk2 m2 N2 l2 S2 d hd q2 => ?_)
  refine wgo ((q2 τ2 v hd).run h2 tk2 S2) (fun _ τ3 h3 tk3 m3 N3 l3 S3 q3 => ?_)
  exact wpAny_mono ((q3 τ3).run h3 tk3 S3) (fun _ _ o => o.le (l1.trans (l2.trans l3))) fun _ _ x => x
theorem none_at {K : Frag} {h : Heap} {mc : Str → Option Value} {ns : Addr} {n : Str} (X : K.In h) (G : h.Ns ns mc) (e : nsIn K ns n = some Option.none) : mc n = Option.none := by
  refine hideG fun G9 kG9 => ?_
  obtain ⟨o, es, ep, ho, hd, _, hf⟩ := G
  refine kG9 ?_
  clear kG9
  unfold nsIn at e
  cases q : K.lookup ns with
  | none => rw [q] at e; cases e
  | some o' =>
    rw [q] at e
    have := X _ _ q
    rw [ho] at this
    cases this
    obtain ⟨c, d, dat, sl⟩ := o
    cases hd
    dsimp only at e
    rw [← hf]
    unfold nsFind findBy
    rw [← Array.find?_toList]
    cases he : es.toList.find? (·.key.isStr n) with
    | some x => rw [he] at e; cases e
    | none => rfl
theorem no_book (w : World) : nsIn (hd.heap_39 w.params) cStatics sharingNotToldKey = some Option.none := by kernel_rfl
theorem law_list : bodyOf (fnStmt 15) = lawS 0 :: [lawS 1, lawS 2, lawS 3, lawS 4, lawS 5, lawS 6, lawS 7, lawS 8, lawS 9, lawS 10, lawS 11, lawS 12, lawS 13, lawS 14, lawS 15, lawS 16] := by kernel_rfl
theorem ints_VS {τ : TM} : ∀ {vs : List Value} {ns : List Int}, IntsAre vs ns → VS τ (ns.map V.int) vs
  | _, _, .nil => trivial
  | _, _, .cons _ t h => ⟨⟨t, rfl⟩, ints_VS h⟩
theorem law_raw {A : Around} {L aC aT aD aW aO aS : Addr} {h0 h1 : Heap} {gens : Array GenState} {drawn : Drawn} {os : OsState} {tk : Nat} {mg mb mm : Str → Option Value} {vs : List Value} {ns : List Int} {oC oT oD oW oO : Obj}
    (KX : (hd.heap_39 w.params).In h0) (g : h0.Ns mainGlobals mg) (b : h0.Ns builtinsNs mb) (nl : h0.NoLimit) (nd : ∃ mc, h0.Ns cStatics mc ∧ mc "sys.int_max_str_digits" = Option.none) (hbi : ∀ x : Str, x ≠ "__name__" → mb x = bootBuiltins x)
    (keep : ∀ a o, h0.get? a = some o → h1.get? a = some o) (hmm : h1.Ns L mm) (hsc : mm (Str.ofString "script") = some (.ref aS)) (hL : h0.get? L = Option.none)
    (hS : h0.get? aS = some { cls := .type "list", data := .seq vs.toArray }) (hI : IntsAre vs ns) (hn : ns.length ≤ 63)
    (e1 : env.locals = L) (e2 : env.scope = lawSc) (e3 : env.globals = mainGlobals) (e4 : env.builtins = builtinsNs)
    (hcells : env.cells = [(Str.ofString "order", aO), (Str.ofString "lowest", aW), (Str.ofString "dark", aD), (Str.ofString "tree", aT), (Str.ofString "count", aC)])
    (cC : h1.get? aC = some oC ∧ aC ≠ L ∧ h0.get? aC = Option.none) (cT : h1.get? aT = some oT ∧ aT ≠ L ∧ h0.get? aT = Option.none) (cD : h1.get? aD = some oD ∧ aD ≠ L ∧ h0.get? aD = Option.none) (cW : h1.get? aW = some oW ∧ aW ≠ L ∧ h0.get? aW = Option.none) (cO : h1.get? aO = some oO ∧ aO ≠ L ∧ h0.get? aO = Option.none)
    (kC : oC.data = .cell Option.none) (kT : oT.data = .cell Option.none) (kD : oD.data = .cell Option.none) (kW : oW.data = .cell Option.none) (kO : oO.data = .cell Option.none)
    (d1 : aC ≠ aD) (d2 : aC ≠ aW) (d3 : aC ≠ aO) (d4 : aD ≠ aW) (d5 : aD ≠ aO) (d6 : aW ≠ aO) (d7 : aT ≠ aC) (d8 : aT ≠ aD) (d9 : aT ≠ aW) (d10 : aT ≠ aO)
    (a1 : A.handled = Option.none) (a2 : A.depth + 3 < recursionLimit) (a3 : A.units + 12 < cLine) :
    wpAny (model prog w) A (execs (bodyOf (fnStmt 15)) env) (fun f s' => ∃ h' tk', f = .ret (.bool true) ∧ s' = ⟨h', gens, drawn, tk', os⟩ ∧ ∀ a o, h0.get? a = some o → h'.get? a = some o) (fun _ _ => False) ⟨h1, gens, drawn, tk, os⟩ := by
  have hBs : Bs w h0.get? := by
    refine ⟨fun a o e => KX a o e, fun h k => ?_⟩
    obtain ⟨mc, n1, _⟩ := nd
    exact ⟨mg, mb, g.at' fun o e => k _ o e, b.at' fun o e => k _ o e, nl.keeps k, hbi, mc, n1.at' fun o e => k _ o e, none_at KX n1 (no_book w)⟩
  let c : Cx := { A := A, B := h0.get?, L := L, F := fun a => if a = aS then some (.list (ns.map V.int)) else Option.none, gens := gens, drawn := drawn, os := os }
  let N : NM := fun a => if a = aC ∨ a = aT ∨ a = aD ∨ a = aW ∨ a = aO then some (.cell Option.none) else Option.none
  let m : LM := fun x => if x = Str.ofString "script" then some (.ref aS) else Option.none
  have E : FE env c lawSc := ⟨e1, e2, by with_unfolding_all rfl, e3, e4⟩
  have F : Fit w c 3 := ⟨hBs, a1, a2, a3⟩
  have S : St prog w c (fun _ => Option.none) (tk + 1) h1 m N := by
    refine ⟨⟨mm, hmm, fun x d e => ?_⟩, keep, hL, fun a o e => ?_, fun a o e => ?_, (fun _ _ e => by cases e), Nat.succ_pos _⟩
    · simp only [m] at e
      split at e
      · rename_i q; cases e; exact ⟨_, by rw [q]; exact hsc, rfl⟩
      · cases e
    · simp only [N] at e
      split at e
      · rename_i q
        cases e
        have key : ∀ {b : Addr} {ob : Obj}, a = b → (h1.get? b = some ob ∧ b ≠ L ∧ h0.get? b = Option.none) → ob.data = .cell Option.none → a ≠ c.L ∧ c.B a = Option.none ∧ ∃ k, h1.get? a = some k ∧ (AO.cell Option.none).is prog w (fun _ => Option.none) k := by
          rintro b ob rfl ⟨x, y, z⟩ t
          exact ⟨y, z, ob, x, Option.none, t, fun _ q => by cases q⟩
        rcases q with q | q | q | q | q
        · exact key q cC kC
        · exact key q cT kT
        · exact key q cD kD
        · exact key q cW kW
        · exact key q cO kO
      · cases e
    · simp only [c] at e
      split at e
      · rename_i q; cases e; subst q
        exact ⟨_, hS, vs, _, rfl, ints_VS hI⟩
      · cases e
  have hB := F.B
  have hS' : c.F aS = some (.list (ns.map V.int)) := if_pos rfl
  have m1 : m (Str.ofString "script") = some (.ref aS) := if_pos rfl
  have nC : N aC = some (.cell Option.none) := if_pos (.inl rfl)
  have nT : N aT = some (.cell Option.none) := if_pos (.inr (.inl rfl))
  have nD : N aD = some (.cell Option.none) := if_pos (.inr (.inr (.inl rfl)))
  have nW : N aW = some (.cell Option.none) := if_pos (.inr (.inr (.inr (.inl rfl))))
  have nO : N aO = some (.cell Option.none) := if_pos (.inr (.inr (.inr (.inr rfl))))
  have hC : env.cells.lookup (Str.ofString "count") = some aC := by rw [hcells]; with_unfolding_all rfl
  show wpAny (model prog w) c.A (execs (bodyOf (fnStmt 15)) env) _ _ (c.s h1 tk)
  rw [law_list]
  clear_value N m
  refine wpAny_mono (start_assign (Pn := fun _ _ => False) (Pb := fun _ _ => False) (Pc := fun _ _ => False) (Pr := fun d _ _ => d = .bool true) S ?_ ?_) (fun f s' o => ?_) fun _ _ x => x
  · (repeat (first | with_reducible refine Ev.nm (by assumption) (by with_unfolding_all rfl) (by repeat (first | with_reducible assumption | with_reducible exact LM.put_same _ _ _ | with_reducible refine (LM.put_ne (by decide)).trans ?_ | with_unfolding_all rfl)) ?_ | with_reducible refine Ev.bin ?_ | with_reducible refine Ev.int ?_ | with_reducible refine Ev.call ?_ (by with_unfolding_all rfl) (by with_unfolding_all rfl) (by with_unfolding_all rfl) | with_reducible refine Ev.b_len (by assumption) (by assumption) (by with_unfolding_all rfl) ⟨clb_bi, ?_⟩ | with_reducible refine Ev.b_min (by assumption) (by assumption) (by with_unfolding_all rfl) ⟨clb_bi, ?_⟩ | with_reducible refine Ar.cons ?_ (by with_unfolding_all rfl) | with_reducible refine Ar.nil ?_))
    refine Ca.lenL (.inr hS') (by rw [List.length_map]; lia) ?_
    (repeat (first | with_reducible refine Ev.int ?_ | with_reducible refine Bi.divI (by decide) (by decide) ?_ | with_reducible refine Ar.nil ?_))
    refine Ca.minI a1 ?_
    (repeat (first | with_reducible refine Bi.addI ?_))
    rw [List.length_map]
    have hq : 0 ≤ ((ns.length : Int)).fdiv 2 := Int.fdiv_nonneg (Int.natCast_nonneg _) (by decide)
    obtain ⟨n, h5, h7, hn'⟩ : ∃ n : Nat, 5 ≤ n ∧ n ≤ 7 ∧ (5 + (if ((ns.length : Int)).fdiv 2 < 2 then ((ns.length : Int)).fdiv 2 else 2) : Int) = n := by
      refine ⟨((5 + (if ((ns.length : Int)).fdiv 2 < 2 then ((ns.length : Int)).fdiv 2 else 2) : Int)).toNat, ?_, ?_, ?_⟩ <;> (generalize ((ns.length : Int)).fdiv 2 = q at hq ⊢; split <;> lia)
    rw [hn']
    refine Sn.ce E (by with_unfolding_all rfl) hC nC ?_
    exact law_body E hcells F h5 h7 hS' hn m1 (NM.put_same _ _ _) ((NM.put_ne d7).trans nT) ((NM.put_ne (Ne.symm d1)).trans nD) ((NM.put_ne (Ne.symm d2)).trans nW) ((NM.put_ne (Ne.symm d3)).trans nO) d1 d2 d3 d4 d5 d6 d7 d8 d9 d10
  · with_unfolding_all rfl
  · refine hideG fun G9 kG9 => ?_
    obtain ⟨τ', h', tk', m', N', e, l, S', p⟩ := o
    refine kG9 ?_
    clear kG9
    subst e
    cases f with
    | next => exact p.elim
    | brk => exact p.elim
    | cont => exact p.elim
    | ret v =>
      obtain ⟨d, is, rfl⟩ := p
      cases is
      exact ⟨h', tk', rfl, rfl, S'.keep⟩
end
end Mine
end PartA13
section PartA14
open PySem PySem.W PyProof.Rows
set_option linter.unusedVariables false
set_option maxRecDepth 100000
namespace Mine
theorem none_size (h : Heap) : h.get? h.objs.size = none := by
  cases e : h.get? h.objs.size with
  | none => rfl
  | some o => exact absurd (Heap.lt_size e) (Nat.lt_irrefl _)
theorem ne_add (n : Nat) {i j : Nat} (h : i ≠ j) : n + i ≠ n + j := fun q => h (Nat.add_left_cancel q)
set_option maxHeartbeats 8000000 in
theorem law_holds : PySem.Challenge.rw_qu0033_01.Holds := hd (by
  k_go0
  rename Frag.In _ _ => KX
  clear ‹PySem.Heap.CodeRec _ _ _›
  rename Top _ _ _ _ _ _ => T
  rename Fr _ _ _ _ => F
  rename News _ _ _ _ => N0
  rename Well _ _ _ _ => W
  rename IntsAre _ _ => hI
  rename (¬ (_ : Int) < _) => hc
  rename (_ = Data.cell (bindC _ _ _ (Str.ofString "order"))) => kO
  rename (_ = Data.cell (bindC _ _ _ (Str.ofString "lowest"))) => kW
  rename (_ = Data.cell (bindC _ _ _ (Str.ofString "dark"))) => kD
  rename (_ = Data.cell (bindC _ _ _ (Str.ofString "tree"))) => kT
  rename (_ = Data.cell (bindC _ _ _ (Str.ofString "count"))) => kC
  rename Heap.IsList _ _ _ => hL
  cases W with | list W _ =>
  obtain ⟨o, he, _, n, hd'⟩ := hL
  rw [W] at he
  cases he
  cases hd'
  refine wpAny_mono (law_raw KX T.g T.b T.nolimit T.nodigits T.builtins F.keep F.ns (by with_unfolding_all rfl) ?_ W hI ?_ (by with_unfolding_all rfl) (by with_unfolding_all rfl) (by with_unfolding_all rfl) (by with_unfolding_all rfl) ?_
    (N0 _ (.tail _ (.tail _ (.tail _ (.tail _ (.head _)))))) (N0 _ (.tail _ (.tail _ (.tail _ (.head _))))) (N0 _ (.tail _ (.tail _ (.head _)))) (N0 _ (.tail _ (.head _))) (N0 _ (.head _))
    (kC.trans (by with_unfolding_all rfl)) (kT.trans (by with_unfolding_all rfl)) (kD.trans (by with_unfolding_all rfl)) (kW.trans (by with_unfolding_all rfl)) (kO.trans (by with_unfolding_all rfl))
    ?_ ?_ ?_ ?_ ?_ ?_ ?_ ?_ ?_ ?_ ?_ ?_ ?_) ?_ ?_
  · exact none_size _
  · exact Int.ofNat_le.mp (Int.not_lt.mp hc)
  · with_unfolding_all rfl
  · exact ne_add _ (i := 1) (j := 3) (by decide)
  · exact ne_add _ (i := 1) (j := 4) (by decide)
  · exact ne_add _ (i := 1) (j := 5) (by decide)
  · exact ne_add _ (i := 3) (j := 4) (by decide)
  · exact ne_add _ (i := 3) (j := 5) (by decide)
  · exact ne_add _ (i := 4) (j := 5) (by decide)
  · exact ne_add _ (i := 2) (j := 1) (by decide)
  · exact ne_add _ (i := 2) (j := 3) (by decide)
  · exact ne_add _ (i := 2) (j := 4) (by decide)
  · exact ne_add _ (i := 2) (j := 5) (by decide)
  · with_unfolding_all rfl
  · exact Nat.le_of_ble_eq_true (by with_unfolding_all rfl)
  · exact Nat.le_of_ble_eq_true (by with_unfolding_all rfl)
  · rintro _ _ ⟨h', tk', rfl, rfl, hk⟩
    refine ⟨.inl ⟨.bool true, .bool true, [], rfl, fun _ => by with_unfolding_all rfl, .bool _, by with_unfolding_all rfl, fun _ => ⟨List.nodup_nil, fun _ h => by cases h⟩⟩, hk, rfl, by with_reducible assumption⟩
  · exact fun _ _ x => x.elim)
end Mine
end PartA14
theorem PySem.Challenge.cw_qu0033_01_holds : PySem.Challenge.rw_qu0033_01.Holds := by
  exact Mine.law_holds
