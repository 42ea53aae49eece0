import PyProof.Rows.All
import Wide.All
import OpenK.AllK
import Wide.FinOn
import PySem.Challenge.RW_xo0004_01
open PySem PySem.W PyProof.Rows
set_option Elab.async false
namespace Mine
set_option maxRecDepth 100000 in
set_option maxHeartbeats 8000000 in
open_top hd for PySem.Challenge.rw_xo0004_01
end Mine

open PySem.Calls
namespace Mine
set_option maxRecDepth 100000

noncomputable abbrev KF (w : World) : Frag := hd.heap_39 w.params
noncomputable abbrev VW : Program := hd.view_39

/-- what stays true of the heap all along the call -/
structure Gd (w : World) (mg mb : Str → Option Value) (h : Heap) : Prop where
  X : (KF w).In h
  T : TopRead VW (looseW VW []) mg mb h
theorem Gd.keeps {w : World} {mg mb : Str → Option Value} {h h' : Heap} (G : Gd w mg mb h) (hk : ∀ b o, h.get? b = some o → h'.get? b = some o) : Gd w mg mb h' :=
  ⟨fun a o e => hk _ _ (G.X a o e), G.T.keeps hk⟩

abbrev NoE : Value → Shared → Prop := fun _ _ => False

/-- room for k more frames, nothing handled -/
structure Rm (k : Nat) (A : Around) : Prop where
  hh : A.handled = none
  dp : A.depth + k < 900
  un : A.units + 10 * k + 100 < 9000
theorem Rm.deeper {k : Nat} {A : Around} (r : Rm (k + 1) A) (env : Env) : Rm k (A.deeper env) :=
  ⟨r.hh, by have := r.dp; show A.depth + 1 + k < 900; omega, by have := r.un; show A.units + 3 + 10 * k + 100 < 9000; omega⟩
theorem Rm.room {k : Nat} {A : Around} (r : Rm k A) : A.depth < recursionLimit := by
  have := r.dp; show A.depth < 1000; omega
theorem Rm.units {k : Nat} {A : Around} (r : Rm k A) : A.units < cLine := by
  have := r.un; show A.units < 9900; omega

/-- the locals' map after a store -/
def setV (x : Str) (v : Value) (m : Str → Option Value) : Str → Option Value := fun y => if y = x then some v else m y
theorem setV_eq {x : Str} {v : Value} {m : Str → Option Value} : setV x v m x = some v := by simp [setV]
theorem setV_ne {x y : Str} {v : Value} {m : Str → Option Value} {r : Option Value} (h : y ≠ x) (e : m y = r) : setV x v m y = r := by simp [setV, h, e]

/-- the state of a frame: its locals m at L, a base B that stays, the objects that the call has made and may turn -/
structure St (B : Heap) (L : Addr) (h : Heap) (m : Str → Option Value) (news : List (Addr × Obj)) : Prop where
  ns : h.Ns L m
  keep : ∀ b o, B.get? b = some o → h.get? b = some o
  out : B.get? L = none
  nw : ∀ p ∈ news, h.get? p.1 = some p.2 ∧ p.1 ≠ L ∧ B.get? p.1 = none
  nd : (news.map (·.1)).Nodup

section
variable {B h h' : Heap} {L : Addr} {m m' : Str → Option Value} {news news' : List (Addr × Obj)}
theorem St.of_fr (F : Fr B L h m) : St B L h m [] :=
  ⟨F.ns, F.keep, by
    cases q : B.get? L with
    | none => rfl
    | some o => exact absurd (Heap.lt_size q) (Nat.not_lt.mpr F.above), (fun _ hp => nomatch hp), .nil⟩
theorem St.of_fn (F : Fr B L h m) (N : News B L h news) (nd : (news.map (·.1)).Nodup) : St B L h m news := ⟨F.ns, F.keep, (St.of_fr F).out, N, nd⟩
theorem St.fr (S : St B L h m news) (hB : B.objs.size ≤ L) : Fr B L h m := ⟨S.ns, S.keep, hB⟩
theorem St.toNews (S : St B L h m news) : News B L h news := S.nw
theorem St.get (S : St B L h m news) {a : Addr} {o : Obj} (hm : (a, o) ∈ news) : h.get? a = some o := (S.nw _ hm).1
theorem St.fresh (S : St B L h m news) : B.get? h.objs.size = none := by
  cases q : B.get? h.objs.size with
  | none => rfl
  | some o => exact absurd (Heap.lt_size (S.keep _ _ q)) (Nat.lt_irrefl _)
theorem St.push (S : St B L h m news) (o : Obj) (hf : o.isFreed = false := by rfl) : St B L (h.push o) m ((h.objs.size, o) :: news) := by
  refine ⟨S.ns.push o, fun b o' e => Heap.get?_push_of_some _ (S.keep b o' e), S.out, fun p hp => ?_, ?_⟩
  · rcases List.mem_cons.mp hp with rfl | hp
    · exact ⟨Heap.get?_push_size _ hf, Nat.ne_of_gt S.ns.lt, S.fresh⟩
    · exact ⟨Heap.get?_push_of_some _ (S.nw p hp).1, (S.nw p hp).2⟩
  · refine List.nodup_cons.mpr ⟨fun hm => ?_, S.nd⟩
    obtain ⟨p, hp, e⟩ := List.mem_map.mp hm
    exact absurd (Heap.lt_size (S.nw p hp).1) (by rw [e]; exact Nat.lt_irrefl _)
theorem St.set (S : St B L h m news) (hn : h'.Ns L m') (hs : Heap.SameBut L h h') : St B L h' m' news :=
  ⟨hn, fun b o e => (hs.2 b (fun q => by rw [q, S.out] at e; cases e)).trans (S.keep b o e), S.out,
   fun p hp => ⟨(hs.2 p.1 (S.nw p hp).2.1).trans (S.nw p hp).1, (S.nw p hp).2⟩, S.nd⟩
theorem St.keeps (S : St B L h m news) (hk : ∀ b o, h.get? b = some o → h'.get? b = some o) : St B L h' m news :=
  ⟨S.ns.keeps hk, fun b o e => hk _ _ (S.keep b o e), S.out, fun p hp => ⟨hk _ _ (S.nw p hp).1, (S.nw p hp).2⟩, S.nd⟩
theorem St.sub (S : St B L h m news) (hs : news'.Sublist news) : St B L h m news' :=
  ⟨S.ns, S.keep, S.out, fun p hp => S.nw p (hs.subset hp), (hs.map _).nodup S.nd⟩
theorem St.upd (S : St B L h m news) (i : Nat) {a : Addr} {o o' : Obj} (hi : news[i]? = some (a, o)) (hs : Heap.SameBut a h h') (hg : h'.get? a = some o') : St B L h' m (news.set i (a, o')) := by
  have hm := List.mem_of_getElem? hi
  obtain ⟨h1, h2, h3⟩ := S.nw _ hm
  have hmap : (news.set i (a, o')).map (·.1) = news.map (·.1) := by
    rw [List.map_set]
    obtain ⟨hl, he⟩ := List.getElem?_eq_some_iff.mp hi
    apply List.ext_getElem?
    intro j
    rw [List.getElem?_set]
    split
    · rename_i e; subst e
      simp [hl, he]
    · rfl
  refine ⟨S.ns.sameBut hs (Ne.symm h2), fun b o e => (hs.2 b (fun q => by rw [q] at e; simp only at h3; rw [h3] at e; cases e)).trans (S.keep b o e), S.out, fun p hp => ?_, by rw [hmap]; exact S.nd⟩
  rcases List.mem_or_eq_of_mem_set hp with hp' | rfl
  · by_cases hpa : p.1 = a
    · -- the entry itself, or one at the same address: only i is at a
      have : p = (a, o') := by
        obtain ⟨j, hj, hpj⟩ := List.getElem_of_mem hp
        have hij : j = i := by
          have nd := S.nd
          rw [← hmap] at nd
          have hl := (List.getElem?_eq_some_iff.mp hi).1
          have e1 : ((news.set i (a, o')).map (·.1))[j]? = some a := by
            rw [List.getElem?_map, List.getElem?_eq_getElem hj, hpj]; simp [hpa]
          have e2 : ((news.set i (a, o')).map (·.1))[i]? = some a := by
            rw [List.getElem?_map, List.getElem?_set_self hl]; rfl
          have hj' : j < ((news.set i (a, o')).map (·.1)).length := by simpa using hj
          exact (List.getElem?_inj hj' nd).mp (e1.trans e2.symm)
        subst hij
        rw [← hpj]; simp
      subst this
      exact ⟨hg, h2, h3⟩
    · exact ⟨(hs.2 _ hpa).trans (S.nw p hp').1, (S.nw p hp').2⟩
  · exact ⟨hg, h2, h3⟩
theorem St.drop0 {a : Addr} {o : Obj} (S : St B L h m ((a, o) :: news)) (hx : Heap.ExtBut a h h') : St B L h' m news := by
  obtain ⟨h1, h2, h3⟩ := S.nw _ (.head _)
  refine ⟨S.ns.extBut hx (Ne.symm h2), fun b o e => hx b o (fun q => by rw [q] at e; simp only at h3; rw [h3] at e; cases e) (S.keep b o e), S.out, fun p hp => ?_, (List.nodup_cons.mp S.nd).2⟩
  have hne : p.1 ≠ a := fun q => (List.nodup_cons.mp S.nd).1 (by show a ∈ _; rw [← q]; exact List.mem_map.mpr ⟨p, hp, rfl⟩)
  exact ⟨hx _ _ hne (S.nw p (.tail _ hp)).1, (S.nw p (.tail _ hp)).2⟩
/-- all but the frame's locals and the objects in hand may be taken as the base -/
theorem St.freeze (S : St B L h m news) : ∃ B', St B' L h m news ∧ (∀ b o, B.get? b = some o → B'.get? b = some o) ∧ (∀ b o, h.get? b = some o → b ≠ L → b ∉ news.map (·.1) → B'.get? b = some o) ∧ (∀ b o, B'.get? b = some o → h.get? b = some o) := by
  have hin : ∀ b o, h.get? b = some o → b ≠ L → b ∉ news.map (·.1) → (hideAll h (L :: news.map (·.1))).get? b = some o := fun b o e h1 h2 =>
    hideAll_get _ e fun hm => (List.mem_cons.mp hm).elim h1 h2
  refine ⟨hideAll h (L :: news.map (·.1)), ⟨S.ns, fun b o e => of_hideAll _ e, hideAll_none _ (.head _), fun p hp => ⟨(S.nw p hp).1, (S.nw p hp).2.1, hideAll_none _ (.tail _ (List.mem_map.mpr ⟨p, hp, rfl⟩))⟩, S.nd⟩, fun b o e => ?_, hin, fun b o e => of_hideAll _ e⟩
  refine hin b o (S.keep b o e) (fun q => by rw [q, S.out] at e; cases e) fun hm => ?_
  obtain ⟨p, hp, q⟩ := List.mem_map.mp hm
  rw [← q, (S.nw p hp).2.2] at e; cases e
theorem none_of {B B' : Heap} (hk : ∀ b o, B.get? b = some o → B'.get? b = some o) {x : Addr} (e : B'.get? x = none) : B.get? x = none := by
  cases q : B.get? x with
  | none => rfl
  | some o => have := hk _ _ q; rw [e] at this; cases this
theorem St.mono {B' : Heap} (S : St B' L h m news) (hk : ∀ b o, B.get? b = some o → B'.get? b = some o) : St B L h m news :=
  ⟨S.ns, fun b o e => S.keep b o (hk b o e), none_of hk S.out, fun p hp => ⟨(S.nw p hp).1, (S.nw p hp).2.1, none_of hk (S.nw p hp).2.2⟩, S.nd⟩
theorem St.good {w : World} {mg mb : Str → Option Value} (S : St B L h m news) (G : Gd w mg mb B) : Gd w mg mb h := G.keeps S.keep
end

section
variable {w : World} {prog : Program} {mg mb : Str → Option Value} {A : Around} {s : Shared} {R : Result → Shared → Prop} {E : Value → Shared → Prop}

/-- a call of a plain def of the text that raises nothing -/
theorem call_def {f : Addr} {oc : Value} {od : Option Addr} {osl : Array (Option Value)} {name : Str} {params : Arguments} {body : List Stmt} {scope : Scope} {pm cd doc : Value} {args : List Value}
    (G : Gd w mg mb s.heap) (hroom : A.depth < recursionLimit)
    (ho : (KF w).lookup f = some ⟨oc, od, .func (docDef name params body scope pm cd doc), osl⟩)
    (hcd : codeIn (KF w) cd name = true)
    (hbind : bindArgs (docDef name params body scope pm cd doc) ⟨args, []⟩ = pure ((params.args.map (·.arg)).zip args))
    (hloc : (((params.args.map (·.arg)).zip args).all fun x => decide (scope.names.lookup x.1 = some .local)) = true)
    (h : ∀ h₁ tk, St s.heap s.heap.objs.size h₁ (fun x => ((params.args.map (·.arg)).zip args).reverse.lookup x) [] →
      wpAny (model prog w) (A.deeper (envOf name scope s.heap.objs.size f cd)) (execs body (envOf name scope s.heap.objs.size f cd))
        (fun fl s' => R (.ok (.ret (match fl with | .ret v => v | _ => .none))) s') NoE
        { s with heap := h₁, toks := tk })
    (hco : scope.isCoroutine = false) (hgen : scope.isGenerator = false) (hk : scope.kind = .function)
    (hcell : (scope.names.all fun x => x.2 != .cell) = true) :
    codeAny (model prog w) A (.call (.ref f) ⟨args, []⟩) R s :=
  call_plain_ret hroom (G.X f _ ho) rfl G.T.nolimit (codeRec_of G.X hcd) hbind (locs hloc) (fun h₁ F => h h₁ _ (.of_fr F)) hco hgen hk
    (fun x hx => by have := List.all_eq_true.mp hcell x hx; simpa using this)

variable {env : Env} {B : Heap} {m : Str → Option Value} {news : List (Addr × Obj)}
theorem ldS {x : Str} {pos : Pos} {v : Value} {Q : Value → Shared → Prop} (S : St B env.locals s.heap m news) (hv : m x = some v) (h : Q v s)
    (hk : env.scope.kind = .function := by rfl) (hl : env.kindOf x = some .local := by rfl) (hd : (x == ("__debug__" : Str)) = false := by decide) :
    wpAny (model prog w) A (eval (.Name x pos) env) Q E s := wpAny_Name (wpAny_loadName_local hk hl S.ns hv h) hd
theorem ldnS {x : Str} {v : Value} {Q : Value → Shared → Prop} (S : St B env.locals s.heap m news) (hv : m x = some v) (h : Q v s)
    (hk : env.scope.kind = .function := by rfl) (hl : env.kindOf x = some .local := by rfl) :
    wpAny (model prog w) A (loadName env x) Q E s := wpAny_loadName_local hk hl S.ns hv h
theorem stS {x : Str} {v : Value} {Q : Unit → Shared → Prop} (S : St B env.locals s.heap m news)
    (h : ∀ h', St B env.locals h' (setV x v m) news → Q () { s with heap := h', toks := s.toks + 1 })
    (hl : env.kindOf x = some .local := by rfl) (hp : (env.scope.kind == .class || (env.scope.kind == .module && env.locals != env.globals)) = false := by rfl) :
    wpAny (model prog w) A (storeName env x v) Q E s :=
  wpAny_storeName_local hl S.ns (fun h' hn hs => h h' (S.set hn hs)) hp
end
end Mine

namespace Mine
set_option maxRecDepth 100000
section
variable {w : World} {prog : Program} {A : Around} {s : Shared} {env : Env} {α : Type}
theorem noE_any {t : Sem α} {Q : α → Shared → Prop} {E : Value → Shared → Prop} (h : wpAny (model prog w) A t Q NoE s) : wpAny (model prog w) A t Q E s :=
  wpAny_mono h (fun _ _ x => x) fun _ _ x => x.elim

theorem while_S {test : Expr} {body : List Stmt} {pos : Pos} {Q : Flow → Shared → Prop} (I : Nat → Shared → Prop)
    (turn : ∀ n s, I n s → wpAny (model prog w) A (isTrue test env (eval test env)) (fun b s₂ =>
        if b then wpAny (model prog w) A (execs body env) (fun f s₃ => match f with
            | .next | .cont => ∃ m, m < n ∧ I m s₃
            | .brk => Q .next s₃
            | .ret v => Q (.ret v) s₃) NoE s₂
        else Q .next s₂) NoE s)
    (n : Nat) (h : I n s) : wpAny (model prog w) A (exec (.While test body [] pos) env) Q NoE s := by
  refine wpAny_While (codeAny_whileLoop I (fun n s hI => ?_) n h)
  refine wpAny_mono (turn n s hI) (fun b s₂ h₂ => ?_) fun _ _ x => x.elim
  cases b with
  | true => exact noE_any h₂
  | false => exact wpAny_execs_nil h₂

/-- a for over any iterator: the invariant speaks of the state ahead of a draw -/
theorem for_S {target iter : Expr} {body : List Stmt} {pos : Pos} {Q : Flow → Shared → Prop} (I : Value → Nat → Shared → Prop)
    (start : wpAny (model prog w) A (eval iter env) (fun x s₁ => wpAny (model prog w) A (pyIter x) (fun it s₂ => ∃ n, I it n s₂) NoE s₁) NoE s)
    (turn : ∀ it n s, I it n s → wpAny (model prog w) A (pyNext it) (fun r s₁ => match r with
      | none => Q .next s₁
      | some v => wpAny (model prog w) A (assign target env v) (fun _ s₂ => wpAny (model prog w) A (execs body env) (fun f s₃ => match f with
          | .next | .cont => ∃ m, m < n ∧ I it m s₃
          | .brk => Q .next s₃
          | .ret v => Q (.ret v) s₃) NoE s₂) NoE s₁) NoE s)
    (hs : ∀ x, foldedSetIterable iter env x = pure x) (ht : ∀ it v, letOwnedTupleGo target it v = pure ()) :
    wpAny (model prog w) A (exec (.For target iter body [] pos) env) Q NoE s := by
  refine wpAny_For (wpAny_mono start (fun x s₁ h₁ => wpAny_mono h₁ (fun it s₂ h₂ => ?_) fun _ _ x => x) fun _ _ x => x) hs
  obtain ⟨n, hI⟩ := h₂
  refine codeAny_forLoop (I it) (fun n s hI => ?_) n hI (ht it)
  refine wpAny_mono (turn it n s hI) (fun r s₁ h₁ => ?_) fun _ _ x => x.elim
  cases r with
  | none => exact wpAny_execs_nil h₁
  | some v =>
    refine wpAny_mono h₁ (fun _ s₂ h₂ => noE_any h₂) fun _ _ x => x.elim
end
end Mine

namespace Mine
set_option maxRecDepth 100000
abbrev q (x : String) : Str := Str.ofString x
section
variable {w : World} {prog : Program} {A : Around} {E : Value → Shared → Prop} {h : Heap} {g : Array GenState} {d : Drawn} {tk : Nat} {o : OsState} {env : Env} {Q : Value → Shared → Prop}
variable {B : Heap} {L : Addr} {m : Str → Option Value} {news : List (Addr × Obj)} {cn : Str} {cs : Scope} {a : Addr} {cd : Value}

theorem cInt {i : Int} {k : Nat} {pos : Pos} (hQ : ∀ t tk', Q (.int i t) ⟨h, g, d, tk', o⟩) : wpAny (model prog w) A (eval (.Constant (.int i) k pos) env) Q E ⟨h, g, d, tk, o⟩ := wpAny_Constant_int (hQ _ _)
theorem cStr {i : Str} {k : Nat} {pos : Pos} (hQ : ∀ t tk', Q (.str i t) ⟨h, g, d, tk', o⟩) : wpAny (model prog w) A (eval (.Constant (.str i) k pos) env) Q E ⟨h, g, d, tk, o⟩ := wpAny_Constant_str (hQ _ _)
theorem addI {x y : Int} {t u : Tok} (hQ : ∀ t tk', Q (.int (x + y) t) ⟨h, g, d, tk', o⟩) : wpAny (model prog w) A (binaryOp .Add (.int x t) (.int y u)) Q E ⟨h, g, d, tk, o⟩ := PyProof.Rows.add_int (hQ _ _)
theorem iaddI {x y : Int} {t u : Tok} (hQ : ∀ t tk', Q (.int (x + y) t) ⟨h, g, d, tk', o⟩) : wpAny (model prog w) A (inplaceOp .Add (.int x t) (.int y u)) Q E ⟨h, g, d, tk, o⟩ := PyProof.Rows.iadd_int (hQ _ _)
theorem subI {x y : Int} {t u : Tok} (hQ : ∀ t tk', Q (.int (x - y) t) ⟨h, g, d, tk', o⟩) : wpAny (model prog w) A (binaryOp .Sub (.int x t) (.int y u)) Q E ⟨h, g, d, tk, o⟩ := PyProof.Rows.sub_int (hQ _ _)
theorem modI {x y : Int} {t u : Tok} (hy : y ≠ 0) (hQ : ∀ t tk', Q (.int (x.fmod y) t) ⟨h, g, d, tk', o⟩) : wpAny (model prog w) A (binaryOp .Mod (.int x t) (.int y u)) Q E ⟨h, g, d, tk, o⟩ := PyProof.Rows.mod_int' hy (hQ _ _)
theorem mulI {x y : Int} {t u : Tok} (hx : -(2 ^ 40) < x) (hx' : x < 2 ^ 40) (hQ : ∀ t tk', Q (.int (x * y) t) ⟨h, g, d, tk', o⟩) : wpAny (model prog w) A (binaryOp .Mult (.int x t) (.int y u)) Q E ⟨h, g, d, tk, o⟩ :=
  PyProof.Rows.mul_int (hQ _ _) (.of_left (PySem.intBits_le_64 (by omega) (by omega)))
theorem fdvI {x y : Int} {t u : Tok} (hy : y ≠ 0) (hy' : y.natAbs < 1000) (hQ : ∀ t tk', Q (.int (x.fdiv y) t) ⟨h, g, d, tk', o⟩) : wpAny (model prog w) A (binaryOp .FloorDiv (.int x t) (.int y u)) Q E ⟨h, g, d, tk, o⟩ :=
  PyProof.Rows.floordiv_int hy (hQ _ _) (.inl (PyProof.noPylong_small (by omega)))
theorem gtI {x y : Int} {t u : Tok} {s : Shared} (hQ : Q (.bool (decide (y < x))) s) : wpAny (model prog w) A (compareOp .Gt (.int x t) (.int y u)) Q E s := PyProof.Rows.gt_int hQ
theorem ltI {x y : Int} {t u : Tok} {s : Shared} (hQ : Q (.bool (decide (x < y))) s) : wpAny (model prog w) A (compareOp .Lt (.int x t) (.int y u)) Q E s := PyProof.Rows.lt_int hQ
theorem eqI {x y : Int} {t u : Tok} {s : Shared} (hQ : Q (.bool (x == y)) s) : wpAny (model prog w) A (compareOp .Eq (.int x t) (.int y u)) Q E s := PyProof.Rows.eq_int hQ
theorem neI {x y : Int} {t u : Tok} {s : Shared} (hQ : Q (.bool (x != y)) s) : wpAny (model prog w) A (compareOp .NotEq (.int x t) (.int y u)) Q E s := PyProof.Rows.ne_int hQ

/-- a store into a local of the frame -/
theorem sto {x : Str} {v : Value} {Q : Unit → Shared → Prop} (S : St B env.locals h m news)
    (hQ : ∀ h' tk', St B env.locals h' (setV x v m) news → Q () ⟨h', g, d, tk', o⟩)
    (hl : env.kindOf x = some .local := by rfl) (hp : (env.scope.kind == .class || (env.scope.kind == .module && env.locals != env.globals)) = false := by rfl) :
    wpAny (model prog w) A (storeName env x v) Q E ⟨h, g, d, tk, o⟩ := stS S (fun h' S' => hQ h' _ S') hl hp

/-- x = e -/
theorem assignN {x : Str} {pos' pos : Pos} {value : Expr} {Q : Flow → Shared → Prop} {s : Shared}
    (hv : wpAny (model prog w) A (eval value env) (fun v s₁ => wpAny (model prog w) A (storeName env x v) (fun _ => Q .next) E s₁) E s)
    (hs : swapsWith value (some (.Name x pos')) pos.line env = pure false := by rfl) :
    wpAny (model prog w) A (exec (.Assign [.Name x pos'] value pos) env) Q E s := wpAny_Assign_Name hv hs

/-- a tuple's display -/
theorem tupD {elts : List Expr} {k : Nat} {pos : Pos} {s : Shared}
    (hv : wpAny (model prog w) A (spliced (backTo pos (starEach elts env))) (fun vs s₁ => ∃ B L m news, St B L s₁.heap m news ∧ vs.length ≤ sizeLine ∧
      ∀ t h', St B L h' m ((t, { cls := .type "tuple", data := .seq vs.toArray }) :: news) → (∀ b ob, s₁.heap.get? b = some ob → h'.get? b = some ob) → Q (.ref t) ⟨h', s₁.gens, s₁.drawn, s₁.toks, s₁.os⟩) E s) :
    wpAny (model prog w) A (eval (.Tuple elts k pos) env) Q E s :=
  wpAny_Tuple (wpAny_mono hv (fun vs s₁ ⟨_, _, _, _, S, hl, hq⟩ => ⟨hl, hq _ _ (S.push _) fun _ _ e => Heap.get?_push_of_some _ e⟩) fun _ _ x => x)
theorem lstD {elts : List Expr} {pos : Pos} {s : Shared}
    (hv : wpAny (model prog w) A (spliced (backTo pos (starEach elts env))) (fun vs s₁ => ∃ B L m news, St B L s₁.heap m news ∧ vs.length ≤ sizeLine ∧
      ∀ t h', St B L h' m ((t, { cls := .type "list", data := .seq vs.toArray }) :: news) → (∀ b ob, s₁.heap.get? b = some ob → h'.get? b = some ob) → Q (.ref t) ⟨h', s₁.gens, s₁.drawn, s₁.toks, s₁.os⟩) E s) :
    wpAny (model prog w) A (eval (.List elts pos) env) Q E s :=
  wpAny_List (wpAny_mono hv (fun vs s₁ ⟨_, _, _, _, S, hl, hq⟩ => ⟨hl, hq _ _ (S.push _) fun _ _ e => Heap.get?_push_of_some _ e⟩) fun _ _ x => x)
theorem fmod_cast (x y : Nat) : (x : Int).fmod y = ((x % y : Nat) : Int) := by
  rw [Int.fmod_eq_emod_of_nonneg _ (by omega)]; rfl
theorem two_fits : 2 ≤ sizeLine := by decide
end
end Mine

namespace Mine
set_option maxRecDepth 100000
section
variable {w : World} {prog : Program} {A : Around} {g : Array GenState} {d : Drawn} {tk : Nat} {o : OsState} {env : Env} {Q : Flow → Shared → Prop}

/-- one way's end of a turn -/
def Turn (L : Addr) (g : Array GenState) (d : Drawn) (o : OsState) (Q : Flow → Shared → Prop) (it : Addr × Obj) (J : Heap → (Str → Option Value) → List (Addr × Obj) → Prop) (f : Flow) (s' : Shared) : Prop :=
  match f with
  | .next | .cont => ∃ B' h' m' news' tk', s' = ⟨h', g, d, tk', o⟩ ∧ St B' L h' m' (it :: news') ∧ J B' m' news'
  | .brk => Q .next s'
  | .ret v => Q (.ret v) s'

theorem Turn.nxt {L : Addr} {it : Addr × Obj} {J : Heap → (Str → Option Value) → List (Addr × Obj) → Prop} {B' h' : Heap} {m' : Str → Option Value} {news' : List (Addr × Obj)} {tk' : Nat}
    (S : St B' L h' m' (it :: news')) (hj : J B' m' news') : Turn L g d o Q it J .next ⟨h', g, d, tk', o⟩ := ⟨B', h', m', news', tk', rfl, S, hj⟩
theorem Turn.cnt {L : Addr} {it : Addr × Obj} {J : Heap → (Str → Option Value) → List (Addr × Obj) → Prop} {B' h' : Heap} {m' : Str → Option Value} {news' : List (Addr × Obj)} {tk' : Nat}
    (S : St B' L h' m' (it :: news')) (hj : J B' m' news') : Turn L g d o Q it J .cont ⟨h', g, d, tk', o⟩ := ⟨B', h', m', news', tk', rfl, S, hj⟩

/-- for x in range(n): J between the turns -/
theorem for_rangeS {x : Str} {px pos : Pos} {iter : Expr} {body : List Stmt} {hs₀ : Heap} {ks₀ : Nat} (n : Nat) (J : Nat → Heap → (Str → Option Value) → List (Addr × Obj) → Prop)
    (hh : A.handled = none) (hn : n < 1000)
    (start : wpAny (model prog w) A (eval iter env) (fun xv s₁ => ∃ B h m news r t u v tk, s₁ = ⟨h, g, d, tk, o⟩ ∧ xv = .ref r ∧ IsRange h r 0 n 1 t u v ∧ St B env.locals h m news ∧ J 0 B m news) NoE ⟨hs₀, g, d, ks₀, o⟩)
    (turn : ∀ i B h m news tk it oi t, i < n → J i B m news → St B env.locals h (setV x (.int (i : Nat) t) m) ((it, oi) :: news) →
      wpAny (model prog w) A (execs body env) (Turn env.locals g d o Q (it, oi) (J (i + 1))) NoE ⟨h, g, d, tk, o⟩)
    (done : ∀ B h m news tk, J n B m news → St B env.locals h m news → Q .next ⟨h, g, d, tk, o⟩)
    (hl : env.kindOf x = some .local := by rfl) (hp : (env.scope.kind == .class || (env.scope.kind == .module && env.locals != env.globals)) = false := by rfl)
    (hs : ∀ y, foldedSetIterable iter env y = pure y := by intro _; rfl) :
    wpAny (model prog w) A (exec (.For (.Name x px) iter body [] pos) env) Q NoE ⟨hs₀, g, d, ks₀, o⟩ := by
  refine for_S (fun it k s' => ∃ I i B h m news tk, it = .ref I ∧ k = n - i ∧ i ≤ n ∧ s' = ⟨h, g, d, tk, o⟩ ∧ J i B m news ∧
    St B env.locals h m ((I, { cls := .type "range_iterator", data := .fields #[rawInt (i : Nat), rawInt ((n : Int) - (i : Nat)), rawInt 1] }) :: news)) ?_ ?_ hs (fun _ _ => rfl)
  · refine wpAny_mono start (fun xv s₁ hx => ?_) fun _ _ x => x
    obtain ⟨B, h, m, news, r, t, u, v, tk, rfl, rfl, hr, S, hJ⟩ := hx
    have hsz : Builtin.Range.rangeSize 0 (n : Int) 1 = n := by unfold Builtin.Range.rangeSize; simp; omega
    refine wpAny_pyIter_range hr ?_ ⟨n, _, 0, B, _, m, news, _, rfl, by simp, Nat.zero_le _, rfl, hJ, ?_⟩
    · have hf : ∀ z : Int, -2000 < z → z < 2000 → Builtin.Range.rangeFitsLong z = true := fun z h1 h2 => by
        simp only [Builtin.Range.rangeFitsLong]; simp; omega
      simp only [Builtin.Range.small, hsz, hf 0 (by omega) (by omega), hf n (by omega) (by omega), hf 1 (by omega) (by omega), Bool.and_true, Bool.true_and]
      have h3 := hf n (by omega) (by omega)
      simp [h3]
    · have := S.push { cls := .type "range_iterator", data := .fields #[rawInt 0, rawInt (Builtin.Range.rangeSize 0 (n : Int) 1), rawInt 1] }
      rw [hsz] at this
      rw [hsz]
      simpa using this
  · rintro it k s' ⟨I, i, B, h, m, news, tk, rfl, rfl, hi, rfl, hJ, S⟩
    have hit := S.get (.head _)
    by_cases hlt : i < n
    · refine wpAny_pyNext_range_item hit (by omega) fun h₁ hit₁ hs₁ => ?_
      have S₁ := S.upd 0 rfl hs₁ hit₁
      refine wpAny_assign_Name (sto S₁ (fun h₂ tk₂ S₂ => ?_) hl hp)
      refine wpAny_mono (turn i B h₂ m news tk₂ I _ tk hlt hJ S₂) (fun f s₃ hf => ?_) fun _ _ x => x
      have key : (∃ B' h' m' news' tk', s₃ = ⟨h', g, d, tk', o⟩ ∧ St B' env.locals h' m' ((I, { cls := .type "range_iterator", dict := none, data := .fields #[rawInt ((i : Nat) + 1), rawInt ((n : Int) - (i : Nat) - 1), rawInt 1], slots := #[] }) :: news') ∧ J (i + 1) B' m' news') →
          ∃ k', k' < n - i ∧ ∃ I' i' B h m news tk, Value.ref I = .ref I' ∧ k' = n - i' ∧ i' ≤ n ∧ s₃ = ⟨h, g, d, tk, o⟩ ∧ J i' B m news ∧
            St B env.locals h m ((I', { cls := .type "range_iterator", data := .fields #[rawInt (i' : Nat), rawInt ((n : Int) - (i' : Nat)), rawInt 1] }) :: news) := by
        rintro ⟨B', h', m', news', tk', e, S', hJ'⟩
        refine ⟨n - (i + 1), by omega, I, i + 1, B', h', m', news', tk', rfl, rfl, hlt, e, hJ', ?_⟩
        have e1 : ((i + 1 : Nat) : Int) = (i : Int) + 1 := by push_cast; rfl
        have e2 : (n : Int) - ((i + 1 : Nat) : Int) = (n : Int) - (i : Nat) - 1 := by push_cast; omega
        rw [e2, e1]; exact S'
      cases f with
      | next => exact key hf
      | cont => exact key hf
      | brk => exact hf
      | ret v => exact hf
    · have hin : i = n := by omega
      subst hin
      refine wpAny_pyNext_range_end hh hit (by omega) fun h₁ he₁ => ?_
      exact done B h₁ m news tk hJ (S.drop0 he₁)

/-- for x in l, l a list that no turn changes -/
theorem for_listS {x : Str} {px pos : Pos} {iter : Expr} {body : List Stmt} {hs₀ : Heap} {ks₀ : Nat} (vs : List Value) (J : Nat → Heap → (Str → Option Value) → List (Addr × Obj) → Prop)
    (hh : A.handled = none)
    (start : wpAny (model prog w) A (eval iter env) (fun xv s₁ => ∃ B h m news l tk, s₁ = ⟨h, g, d, tk, o⟩ ∧ xv = .ref l ∧ (∀ i B m news, J i B m news → B.IsList l vs.toArray) ∧ St B env.locals h m news ∧ J 0 B m news) NoE ⟨hs₀, g, d, ks₀, o⟩)
    (turn : ∀ i v B h m news tk it oi, vs[i]? = some v → J i B m news → St B env.locals h (setV x v m) ((it, oi) :: news) →
      wpAny (model prog w) A (execs body env) (Turn env.locals g d o Q (it, oi) (J (i + 1))) NoE ⟨h, g, d, tk, o⟩)
    (done : ∀ B h m news tk, J vs.length B m news → St B env.locals h m news → Q .next ⟨h, g, d, tk, o⟩)
    (hl : env.kindOf x = some .local := by rfl) (hp : (env.scope.kind == .class || (env.scope.kind == .module && env.locals != env.globals)) = false := by rfl)
    (hs : ∀ y, foldedSetIterable iter env y = pure y := by intro _; rfl) :
    wpAny (model prog w) A (exec (.For (.Name x px) iter body [] pos) env) Q NoE ⟨hs₀, g, d, ks₀, o⟩ := by
  refine for_S (fun it k s' => ∃ I i l B h m news oi tk, it = .ref I ∧ k = vs.length - i ∧ i ≤ vs.length ∧ s' = ⟨h, g, d, tk, o⟩ ∧ (∀ i B m news, J i B m news → B.IsList l vs.toArray) ∧ J i B m news ∧
    St B env.locals h m ((I, oi) :: news) ∧ h.IsListIter I l i) ?_ ?_ hs (fun _ _ => rfl)
  · refine wpAny_mono start (fun xv s₁ hx => ?_) fun _ _ x => x
    obtain ⟨B, h, m, news, l, tk, rfl, rfl, hJl, S, hJ⟩ := hx
    refine wpAny_pyIter_list ((hJl _ _ _ _ hJ).at (S.keep l)) ⟨vs.length, _, 0, l, B, _, m, news, _, _, rfl, by simp, Nat.zero_le _, rfl, hJl, hJ, S.push _, ?_⟩
    exact ⟨_, Heap.get?_push_size _ rfl, rfl, rfl⟩
  · rintro it k s' ⟨I, i, l, B, h, m, news, oi, tk, rfl, rfl, hi, rfl, hJl, hJ, S, hit⟩
    have hls : h.IsList l vs.toArray := (hJl _ _ _ _ hJ).at (S.keep l)
    by_cases hlt : i < vs.length
    · refine wpAny_pyNext_list_item (x := vs[i]) hit hls (by simp [hlt]) fun h₁ hit₁ hs₁ => ?_
      obtain ⟨oi', ho', _⟩ := id hit₁
      have S₁ := S.upd 0 rfl hs₁ ho'
      refine wpAny_assign_Name (sto S₁ (fun h₂ tk₂ S₂ => ?_) hl hp)
      refine wpAny_mono (turn i vs[i] B h₂ m news tk₂ I _ (by simp [hlt]) hJ S₂) (fun f s₃ hf => ?_) fun _ _ x => x
      have key : (∃ B' h' m' news' tk', s₃ = ⟨h', g, d, tk', o⟩ ∧ St B' env.locals h' m' ((I, oi') :: news') ∧ J (i + 1) B' m' news') →
          ∃ k', k' < vs.length - i ∧ ∃ I' i' l' B h m news oi tk, Value.ref I = .ref I' ∧ k' = vs.length - i' ∧ i' ≤ vs.length ∧ s₃ = ⟨h, g, d, tk, o⟩ ∧ (∀ i B m news, J i B m news → B.IsList l' vs.toArray) ∧ J i' B m news ∧
            St B env.locals h m ((I', oi) :: news) ∧ h.IsListIter I' l' i' := by
        rintro ⟨B', h', m', news', tk', e, S', hJ'⟩
        refine ⟨vs.length - (i + 1), by omega, I, i + 1, l, B', h', m', news', oi', tk', rfl, rfl, hlt, e, hJl, hJ', S', ?_⟩
        obtain ⟨o2, h2, r⟩ := hit₁
        rw [ho'] at h2; cases h2
        exact ⟨_, S'.get (.head _), r⟩
      cases f with
      | next => exact key hf
      | cont => exact key hf
      | brk => exact hf
      | ret v => exact hf
    · have hin : i = vs.length := by omega
      subst hin
      refine wpAny_pyNext_list_end hh hit hls (by simp) fun h₁ he₁ => ?_
      exact done B h₁ m news tk hJ (S.drop0 he₁)
end
end Mine

namespace Mine
set_option maxRecDepth 100000

/-- a text by its signs' numbers -/
def sx (l : List Nat) : Str := ⟨l.toArray⟩
theorem sx_list (l : List Nat) : (sx l).cps.toList = l := rfl
theorem sx_len (l : List Nat) : (sx l).length = l.length := by simp [sx, Str.length]
theorem sx_add (a b : List Nat) : sx a ++ sx b = sx (a ++ b) := PySem.Str.ext' (by rw [PySem.Str.cps_append]; simp [sx])
theorem sx_of {x : Str} {l : List Nat} (h : x.cps.toList = l) : x = sx l := by subst h; exact PySem.Str.ext' (by simp [sx])
theorem sx_mul (c : Nat) (n : Int) : Txt.mul (sx [c]) n = sx (List.replicate n.toNat c) := sx_of (mul_one_list c n)

section
variable {w : World} {prog : Program} {mg mb : Str → Option Value} {A : Around} {E : Value → Shared → Prop} {h : Heap} {g : Array GenState} {d : Drawn} {tk : Nat} {o : OsState} {env : Env} {Q : Value → Shared → Prop} {s : Shared}

theorem cSx {i : Str} {k : Nat} {pos : Pos} (l : List Nat) (hi : i = sx l) (hQ : ∀ t tk', Q (.str (sx l) t) ⟨h, g, d, tk', o⟩) : wpAny (model prog w) A (eval (.Constant (.str i) k pos) env) Q E ⟨h, g, d, tk, o⟩ := by
  subst hi; exact cStr hQ
theorem mulSx {c : Nat} {n : Nat} {t u : Tok} (hn : n ≤ 1000) (hQ : ∀ t' tk', Q (.str (sx (List.replicate n c)) t') ⟨h, g, d, tk', o⟩) :
    wpAny (model prog w) A (binaryOp .Mult (.str (sx [c]) t) (.int n u)) Q E ⟨h, g, d, tk, o⟩ :=
  SB.mul (mulOk_of 1 1000 (by rw [sx_len]; simp) (by omega) (by omega) (by decide) (by decide)) fun t' k => by
    rw [sx_mul]; exact hQ t' k
theorem mulSxZ {c : Nat} {z : Int} (n : Nat) {t u : Tok} (hz : z = n) (hn : n ≤ 1000) (hQ : ∀ t' tk', Q (.str (sx (List.replicate n c)) t') ⟨h, g, d, tk', o⟩) :
    wpAny (model prog w) A (binaryOp .Mult (.str (sx [c]) t) (.int z u)) Q E ⟨h, g, d, tk, o⟩ := by subst hz; exact mulSx hn hQ
theorem addSx {a b : List Nat} {t u : Tok} (ha : a.length ≤ 10000) (hb : b.length ≤ 10000) (hQ : ∀ t' tk', Q (.str (sx (a ++ b)) t') ⟨h, g, d, tk', o⟩) :
    wpAny (model prog w) A (binaryOp .Add (.str (sx a) t) (.str (sx b) u)) Q E ⟨h, g, d, tk, o⟩ :=
  KXadd.add (K := 10000) (L := 10000) (by rw [sx_len]; exact ha) (by rw [sx_len]; exact hb) (by decide) fun t' k _ => by
    rw [sx_add]; exact hQ t' k
theorem gtSx {a b : List Nat} {t u : Tok} (hQ : Q (.bool (decide (b < a))) s) : wpAny (model prog w) A (compareOp .Gt (.str (sx a) t) (.str (sx b) u)) Q E s := P.gt_str hQ
theorem ltSx {a b : List Nat} {t u : Tok} (hQ : Q (.bool (decide (a < b))) s) : wpAny (model prog w) A (compareOp .Lt (.str (sx a) t) (.str (sx b) u)) Q E s := PyProof.Rows.lt_str hQ
theorem neSx {a b : List Nat} {t u : Tok} (hQ : Q (.bool (a != b)) s) : wpAny (model prog w) A (compareOp .NotEq (.str (sx a) t) (.str (sx b) u)) Q E s := PyProof.Rows.ne_str (by rw [← toList_bne]; exact hQ)
theorem eqSx {a b : List Nat} {t u : Tok} (hQ : Q (.bool (a == b)) s) : wpAny (model prog w) A (compareOp .Eq (.str (sx a) t) (.str (sx b) u)) Q E s := PyProof.Rows.eq_str (by rw [← toList_beq]; exact hQ)
theorem inSx {a : List Nat} {c : Nat} {t u : Tok} (hQ : Q (.bool (decide (c ∈ a))) s) : wpAny (model prog w) A (compareOp .In (.str (sx [c]) t) (.str (sx a) u)) Q E s :=
  PyProof.Rows.in_str (x := sx a) (y := sx [c]) (by
    have := StrLaws.found_one (sx a) c
    rw [show ({ cps := #[c] } : Str) = sx [c] from rfl, sx_list] at this
    rw [this]; exact hQ)
theorem subB {a b : Bool} (hQ : ∀ t tk', Q (.int (b2i a - b2i b) t) ⟨h, g, d, tk', o⟩) : wpAny (model prog w) A (binaryOp .Sub (.bool a) (.bool b)) Q E ⟨h, g, d, tk, o⟩ := sub_bool (hQ _ _)

/-- a name of the text's top -/
theorem ldG {x : Str} {pos : Pos} {v : Value} (G : Gd w mg mb s.heap) (e : nsIn (KF w) mainGlobals x = some (some v)) (hQ : Q v s)
    (hk : env.scope.kind = .function := by rfl) (hx : env.kindOf x = some .globalImplicit := by rfl) (hg : env.globals = mainGlobals := by rfl) (hd : (x == ("__debug__" : Str)) = false := by decide) :
    wpAny (model prog w) A (eval (.Name x pos) env) Q E s :=
  Name_function_global hk hx (loadGlobal_global (env := env) (by rw [hg]; exact G.T.g) (mg_of G.X G.T.g e) hQ) hd
/-- a built-in's name -/
theorem ldB {x : Str} {pos : Pos} {v : Value} (G : Gd w mg mb s.heap) (e : nsIn (KF w) mainGlobals x = some none) (hv : bootBuiltins x = some v) (hn : x ≠ "__name__") (hQ : Q v s)
    (hk : env.scope.kind = .function := by rfl) (hx : env.kindOf x = some .globalImplicit := by rfl) (hg : env.globals = mainGlobals := by rfl) (hb : env.builtins = builtinsNs := by rfl) (hd : (x == ("__debug__" : Str)) = false := by decide) :
    wpAny (model prog w) A (eval (.Name x pos) env) Q E s :=
  Name_function_global hk hx (loadGlobal_builtin (env := env) (by rw [hg]; exact G.T.g) (mg_none_of G.X G.T.g e) (by rw [hb]; exact G.T.b) ((G.T.builtins x hn).trans hv) hQ) hd

/-- a call of a def of the text by its name -/
theorem callF {x : Str} {p pos : Pos} {f : Addr} {e₁ : Expr} {rest : List Expr} (G : Gd w mg mb s.heap) (e : nsIn (KF w) mainGlobals x = some (some (.ref f))) (hk : keepIn (KF w) (.ref f) = true)
    (hQ : wpAny (model prog w) A (spliced (backTo pos (starEach (e₁ :: rest) env))) (fun vs s₁ => Gd w mg mb s₁.heap ∧ codeAny (model prog w) A (.call (.ref f) ⟨vs, []⟩) (fun r s' => match r with | .ok (.ret v) => Q v s' | .ok _ => False | .error e => E e s') s₁) E s)
    (hkind : env.scope.kind = .function := by rfl) (hx : env.kindOf x = some .globalImplicit := by rfl) (hg : env.globals = mainGlobals := by rfl) (hd : (x == ("__debug__" : Str)) = false := by decide)
    (he : starEach (e₁ :: rest) env = (false, eval e₁ env) :: starEach rest env := by rfl) (hplain : (backTo pos (starEach rest env)).any (·.1) = false := by rfl)
    (hc : eval (.Call (.Name x p) (e₁ :: rest) [] pos) env = (do callWith pos (← eval (.Name x p) env) [] (backTo pos (starEach (e₁ :: rest) env)) (backToKw pos (keywordEach [] env))) := by rfl) :
    wpAny (model prog w) A (eval (.Call (.Name x p) (e₁ :: rest) [] pos) env) Q E s :=
  Call_ (ldG G e (callWith_K G.X hk (wpAny_mono hQ (fun _ _ hq => ⟨hq.1.X, wpAny_call hq.2⟩) fun _ _ x => x) he hplain) hkind hx hg hd) hc
theorem callBu {x : Str} {p pos : Pos} {id : String} {e₁ : Expr} {rest : List Expr} (G : Gd w mg mb s.heap) (e : nsIn (KF w) mainGlobals x = some none) (hv : bootBuiltins x = some (.builtin id)) (hn : x ≠ "__name__")
    (hQ : wpAny (model prog w) A (spliced (backTo pos (starEach (e₁ :: rest) env))) (fun vs s₁ => wpAny (model prog w) A (call (.builtin id) vs) Q E s₁) E s)
    (hkind : env.scope.kind = .function := by rfl) (hx : env.kindOf x = some .globalImplicit := by rfl) (hg : env.globals = mainGlobals := by rfl) (hb : env.builtins = builtinsNs := by rfl) (hd : (x == ("__debug__" : Str)) = false := by decide)
    (he : starEach (e₁ :: rest) env = (false, eval e₁ env) :: starEach rest env := by rfl) (hplain : (backTo pos (starEach rest env)).any (·.1) = false := by rfl)
    (hc : eval (.Call (.Name x p) (e₁ :: rest) [] pos) env = (do callWith pos (← eval (.Name x p) env) [] (backTo pos (starEach (e₁ :: rest) env)) (backToKw pos (keywordEach [] env))) := by rfl) :
    wpAny (model prog w) A (eval (.Call (.Name x p) (e₁ :: rest) [] pos) env) Q E s :=
  Call_ (ldB G e hv hn (PyProof.Rows.callWith_builtin1 hQ he hplain) hkind hx hg hb hd) hc
theorem callTy {x : Str} {p pos : Pos} {id : String} {e₁ : Expr} {rest : List Expr} (G : Gd w mg mb s.heap) (e : nsIn (KF w) mainGlobals x = some none) (hv : bootBuiltins x = some (.type id)) (hn : x ≠ "__name__")
    (hQ : wpAny (model prog w) A (spliced (backTo pos (starEach (e₁ :: rest) env))) (fun vs s₁ => wpAny (model prog w) A (call (.type id) vs) Q E s₁) E s)
    (hkind : env.scope.kind = .function := by rfl) (hx : env.kindOf x = some .globalImplicit := by rfl) (hg : env.globals = mainGlobals := by rfl) (hb : env.builtins = builtinsNs := by rfl) (hd : (x == ("__debug__" : Str)) = false := by decide)
    (he : starEach (e₁ :: rest) env = (false, eval e₁ env) :: starEach rest env := by rfl) (hplain : (backTo pos (starEach rest env)).any (·.1) = false := by rfl)
    (hc : eval (.Call (.Name x p) (e₁ :: rest) [] pos) env = (do callWith pos (← eval (.Name x p) env) [] (backTo pos (starEach (e₁ :: rest) env)) (backToKw pos (keywordEach [] env))) := by rfl) :
    wpAny (model prog w) A (eval (.Call (.Name x p) (e₁ :: rest) [] pos) env) Q E s :=
  Call_ (ldB G e hv hn (PyProof.Rows.callWith_type1 hQ he hplain) hkind hx hg hb hd) hc
/-- the arguments of a call, one | two -/
theorem arg1 {pos : Pos} {e₁ : Expr} {Q : List Value → Shared → Prop} (hQ : wpAny (model prog w) A (eval e₁ env) (fun v s₁ => Q [v] s₁) E s) (he : starEach [e₁] env = [(false, eval e₁ env)] := by rfl) :
    wpAny (model prog w) A (spliced (backTo pos (starEach [e₁] env))) Q E s :=
  args_cons (wpAny_mono hQ (fun _ _ hq => args_nil hq) fun _ _ x => x) he
theorem arg2 {pos : Pos} {e₁ e₂ : Expr} {Q : List Value → Shared → Prop} (hQ : wpAny (model prog w) A (eval e₁ env) (fun v s₁ => wpAny (model prog w) A (eval e₂ env) (fun u s₂ => Q [v, u] s₂) E s₁) E s)
    (he : starEach [e₁, e₂] env = [(false, eval e₁ env), (false, eval e₂ env)] := by rfl) (he' : starEach [e₂] env = [(false, eval e₂ env)] := by rfl) :
    wpAny (model prog w) A (spliced (backTo pos (starEach [e₁, e₂] env))) Q E s :=
  args_cons (wpAny_mono hQ (fun _ _ hq => arg1 hq he') fun _ _ x => x) (by rw [he, he'])

/-- a name that stands in a cell -/
theorem ldCell {x : Str} {pos : Pos} {c : Addr} {ob : Obj} {v : Value} (hc : env.cells.lookup x = some c) (ho : s.heap.get? c = some ob) (hd : ob.data = .cell (some v)) (hQ : Q v s)
    (hk : env.scope.kind = .function := by rfl) (hx : env.kindOf x = some .cell := by rfl) (hb : (x == ("__debug__" : Str)) = false := by decide) :
    wpAny (model prog w) A (eval (.Name x pos) env) Q E s := wpAny_Name (wpAny_loadName_cell hk hx hc ⟨ob, ho, hd⟩ hQ) hb
/-- a local by its frame's map alone -/
theorem ldLoc {x : Str} {pos : Pos} {L : Addr} {m : Str → Option Value} {v : Value} (hn : s.heap.Ns L m) (hv : m x = some v) (hQ : Q v s) (hL : env.locals = L := by rfl)
    (hk : env.scope.kind = .function := by rfl) (hx : env.kindOf x = some .local := by rfl) (hb : (x == ("__debug__" : Str)) = false := by decide) :
    wpAny (model prog w) A (eval (.Name x pos) env) Q E s := wpAny_Name (wpAny_loadName_local hk hx (by rw [hL]; exact hn) hv hQ) hb
theorem nsB_len : nsIn (KF w) mainGlobals (q "len") = some none := by kernel_rfl
theorem nsB_range : nsIn (KF w) mainGlobals (q "range") = some none := by kernel_rfl

/-- len(l) of a list -/
theorem lenL {p pos : Pos} {e₁ : Expr} (G : Gd w mg mb s.heap)
    (hQ : wpAny (model prog w) A (eval e₁ env) (fun v s₁ => ∃ l items, v = .ref l ∧ s₁.heap.IsList l items ∧ items.size < 1000000 ∧ ∀ t tk', Q (.int items.size t) ⟨s₁.heap, s₁.gens, s₁.drawn, tk', s₁.os⟩) E s)
    (hkind : env.scope.kind = .function := by rfl) (hx : env.kindOf (q "len") = some .globalImplicit := by rfl) (hg : env.globals = mainGlobals := by rfl) (hb : env.builtins = builtinsNs := by rfl)
    (he : starEach [e₁] env = [(false, eval e₁ env)] := by rfl)
    (hc : eval (.Call (.Name (q "len") p) [e₁] [] pos) env = (do callWith pos (← eval (.Name (q "len") p) env) [] (backTo pos (starEach [e₁] env)) (backToKw pos (keywordEach [] env))) := by rfl) :
    wpAny (model prog w) A (eval (.Call (.Name (q "len") p) [e₁] [] pos) env) Q E s := by
  refine callBu G nsB_len boot_len (by decide) (arg1 (wpAny_mono hQ (fun v s₁ hq => ?_) fun _ _ x => x) he) hkind hx hg hb (by decide) he rfl hc
  obtain ⟨l, items, rfl, hl, hz, hq⟩ := hq
  exact call_len_list hl (by omega) (hq _ _)
/-- range(n) -/
theorem rngN {p pos : Pos} {e₁ : Expr} (G : Gd w mg mb s.heap)
    (hQ : wpAny (model prog w) A (eval e₁ env) (fun v s₁ => ∃ n t, v = .int n t ∧ ∃ B L m news, St B L s₁.heap m news ∧ ∀ r t u v h' tk', St B L h' m ((r, { cls := .type "range", data := .fields #[.int 0 t, .int n u, .int 1 v] }) :: news) →
      Q (.ref r) ⟨h', s₁.gens, s₁.drawn, tk', s₁.os⟩) E s)
    (hkind : env.scope.kind = .function := by rfl) (hx : env.kindOf (q "range") = some .globalImplicit := by rfl) (hg : env.globals = mainGlobals := by rfl) (hb : env.builtins = builtinsNs := by rfl)
    (he : starEach [e₁] env = [(false, eval e₁ env)] := by rfl)
    (hc : eval (.Call (.Name (q "range") p) [e₁] [] pos) env = (do callWith pos (← eval (.Name (q "range") p) env) [] (backTo pos (starEach [e₁] env)) (backToKw pos (keywordEach [] env))) := by rfl) :
    wpAny (model prog w) A (eval (.Call (.Name (q "range") p) [e₁] [] pos) env) Q E s := by
  refine callTy G nsB_range boot_range (by decide) (arg1 (wpAny_mono hQ (fun v s₁ hq => ?_) fun _ _ x => x) he) hkind hx hg hb (by decide) he rfl hc
  obtain ⟨n, t, rfl, B, L, m, news, S, hq⟩ := hq
  exact call_range_1 (hq _ _ _ _ _ _ (S.push _))
end
end Mine

namespace Mine
set_option maxRecDepth 100000
/-- how many of the first j places of the word stand above its place k -/
def cntTo (ws : List Nat) (k : Nat) : Nat → Nat
  | 0 => 0
  | j + 1 => cntTo ws k j + if ws.getD k 0 < ws.getD j 0 then 1 else 0
def invTo (ws : List Nat) : Nat → Nat
  | 0 => 0
  | k + 1 => invTo ws k + cntTo ws k k
/-- the pairs in opposite order -/
def inv (ws : List Nat) : Nat := invTo ws ws.length
def tri : Nat → Nat
  | 0 => 0
  | k + 1 => tri k + k
theorem tri_two (k : Nat) : (k : Int) * ((k : Int) - 1) = 2 * (tri k : Int) := by
  induction k with
  | zero => rfl
  | succ k ih =>
    have e : ((k + 1 : Nat) : Int) * (((k + 1 : Nat) : Int) - 1) = (k : Int) * ((k : Int) - 1) + 2 * k := by
      have h1 : (((k + 1 : Nat) : Int) - 1) = k := by omega
      rw [h1, Int.mul_sub, Int.mul_one]
      have h2 : ((k + 1 : Nat) : Int) * (k : Int) = (k : Int) * k + k := by
        rw [show ((k + 1 : Nat) : Int) = (k : Int) + 1 from by omega, Int.add_mul, Int.one_mul]
      rw [h2]; omega
    rw [e, ih]
    show 2 * (tri k : Int) + 2 * k = 2 * ((tri k + k : Nat) : Int)
    omega
theorem tri_fdiv (k : Nat) : ((k : Int) * ((k : Int) - 1)).fdiv 2 = tri k := by
  rw [tri_two, Int.fdiv_eq_ediv_of_nonneg _ (by omega)]
  omega

/-- a list's values are these numbers -/
def NatsAre (vs : List Value) (ws : List Nat) : Prop := vs.length = ws.length ∧ ∀ (i x : Nat), ws[i]? = some x → ∃ t, vs[i]? = some (Value.int (x : Nat) t)
theorem NatsAre.at {vs : List Value} {ws : List Nat} (hv : NatsAre vs ws) {i : Nat} (hi : i < ws.length) : ∃ t, vs[i]? = some (Value.int (ws.getD i 0 : Nat) t) := by
  obtain ⟨t, ht⟩ := hv.2 i ws[i] (by simp [hi])
  exact ⟨t, by simpa [List.getD, hi] using ht⟩

theorem app_lt (l : List Nat) {a b : List Nat} (h : a < b) : l ++ a < l ++ b := by
  induction l with
  | nil => exact h
  | cons x l ih => exact List.cons_lt_cons_iff.mpr (.inr ⟨rfl, ih⟩)
/-- the text of a place in _law_by_locale -/
def tx (n x : Nat) : List Nat := List.replicate x 109 ++ List.replicate (x % 2 * n) 97
theorem tx_lt {n x y : Nat} (h : x < y) : tx n x < tx n y := by
  obtain ⟨r, rfl⟩ : ∃ r, y = x + (r + 1) := ⟨y - x - 1, by omega⟩
  have e : tx n (x + (r + 1)) = List.replicate x 109 ++ (109 :: (List.replicate r 109 ++ List.replicate ((x + (r + 1)) % 2 * n) 97)) := by
    unfold tx
    rw [← List.replicate_append_replicate, List.append_assoc, List.replicate_succ]; rfl
  rw [e]
  unfold tx
  refine app_lt _ ?_
  cases hz : x % 2 * n with
  | zero => exact List.nil_lt_cons _ _
  | succ k => exact List.cons_lt_cons_iff.mpr (.inl (by decide))
theorem tx_ne {n x y : Nat} (h : x ≠ y) : (decide (tx n x < tx n y) = decide (x < y)) := by
  rcases Nat.lt_or_gt_of_ne h with h1 | h1
  · rw [decide_eq_true (tx_lt h1), decide_eq_true h1]
  · rw [decide_eq_false (fun c => List.lt_irrefl _ (List.lt_trans (tx_lt (n := n) h1) c)), decide_eq_false (by omega)]
/-- a list's values are the texts of the word's places -/
def TextsAre (ys : List Value) (ws : List Nat) : Prop := ys.length = ws.length ∧ ∀ (i x : Nat), ws[i]? = some x → ∃ t, ys[i]? = some (Value.str (sx (tx ws.length x)) t)
theorem paired_get {α β : Type} {F : α → β → Prop} : ∀ {l₁ : List α} {l₂ : List β}, Paired F l₁ l₂ → l₁.length = l₂.length ∧ ∀ (i : Nat) (a : α), l₁[i]? = some a → ∃ b, l₂[i]? = some b ∧ F a b
  | _, _, .nil => ⟨rfl, fun _ _ h => by simp at h⟩
  | _, _, .cons h r => by
    obtain ⟨e, k⟩ := paired_get r
    refine ⟨by simp [e], fun i a ha => ?_⟩
    cases i with
    | zero => simp only [List.getElem?_cons_zero, Option.some.injEq] at ha ⊢; subst ha; exact ⟨_, rfl, h⟩
    | succ i => simp only [List.getElem?_cons_succ] at ha ⊢; exact k i a ha
theorem texts_of {vs ys : List Value} {ws : List Nat} (hv : NatsAre vs ws) (hF : Paired (fun v y => ∃ (x : Nat) (t t' : Tok), v = Value.int x t ∧ y = Value.str (sx (tx ws.length x)) t') vs ys) : TextsAre ys ws := by
  obtain ⟨e, k⟩ := paired_get hF
  refine ⟨e.symm.trans hv.1, fun i x hx => ?_⟩
  obtain ⟨t, ht⟩ := hv.2 i x hx
  obtain ⟨y, hy, x', t₁, t₂, e1, e2⟩ := k i _ ht
  injection e1 with e1 _
  have : x = x' := by omega
  subst this
  exact ⟨t₂, by rw [hy, e2]⟩
end Mine

namespace Mine
set_option maxRecDepth 100000
section
variable {w : World} {prog : Program} {mg mb : Str → Option Value} {A : Around} {s : Shared} {R : Result → Shared → Prop}
theorem coll_call (G : Gd w mg mb s.heap) (hr : Rm 1 A) (a b : List Nat) (ta tb : Tok)
    (h : ∀ h' tk t, (∀ x o, s.heap.get? x = some o → h'.get? x = some o) → R (.ok (.ret (.int (b2i (decide (b < a)) - b2i (decide (a < b))) t))) { s with heap := h', toks := tk }) :
    codeAny (model prog w) A (.call (.ref 72) ⟨[.str (sx a) ta, .str (sx b) tb], []⟩) R s := by
  refine call_def (f := 72) G hr.room rfl ?c ?b ?l (fun h₁ tk S => ?_) rfl rfl rfl ?x
  case c => kernel_rfl
  case b => rfl
  case l => rfl
  case x => rfl
  refine wpAny_execs_cons (wpAny_Return_some (wpAny_BinOp (wpAny_Compare1 (ldS S rfl (ldS S rfl (gtSx (wpAny_Compare1 (ldS S rfl (ldS S rfl (ltSx (subB fun t tk' => ?_)))))))))))
  exact h _ _ _ S.keep

theorem ns_coll : nsIn (KF w) mainGlobals (q "_strcoll") = some (some (.ref 72)) := by kernel_rfl
theorem kp_coll : keepIn (KF w) (.ref 72) = true := by kernel_rfl
theorem locale_call (G : Gd w mg mb s.heap) (hr : Rm 2 A) {l : Addr} {vs : List Value} {ws : List Nat} (hl : s.heap.IsList l vs.toArray) (hv : NatsAre vs ws) (hz : ws.length ≤ 100) (hlt : ∀ x ∈ ws, x < ws.length) (hnd : ws.Nodup)
    (h : ∀ h' tk t, (∀ x o, s.heap.get? x = some o → h'.get? x = some o) → R (.ok (.ret (.int (inv ws : Nat) t))) { s with heap := h', toks := tk }) :
    codeAny (model prog w) A (.call (.ref 112) ⟨[.ref l], []⟩) R s := by
  refine call_cellsN_ret (a := 112) hr.room (G.X 112 _ rfl) rfl G.T.nolimit (codeRec_of G.X ?c) (binds := [(q "word", .ref l)]) rfl ?k ?nd (fun h₁ tk cells F N X => ?_) rfl rfl rfl
  case c => kernel_rfl
  case k => intro x hx; rw [List.mem_singleton.mp hx]; exact .inr ⟨rfl, rfl⟩
  case nd => decide
  obtain ⟨co, rfl, hco⟩ := CellsAre.one X
  have hco' : co.data = .cell (some (.ref l)) := hco
  clear X hco
  obtain ⟨m₀, S₀⟩ : ∃ m₀, St s.heap s.heap.objs.size h₁ m₀ [(s.heap.objs.size + 1, co)] := ⟨_, St.of_fn F N (by simp)⟩
  clear F N
  have hlt₁ : s.heap.objs.size + 1 < h₁.objs.size := Heap.lt_size (S₀.get (.head _))
  refine wpAny_execs_cons (wpAny_Assign_ListComp_free (fun _ => true) (fun v y => ∃ (x : Nat) (t t' : Tok), v = Value.int x t ∧ y = Value.str (sx (tx ws.length x)) t') (cl := [(q "word", s.heap.objs.size + 1)]) rfl rfl (by decide) rfl (by decide) rfl rfl rfl ?_)
  refine wpAny_Name (wpAny_loadName_cell rfl rfl rfl ⟨co, S₀.get (.head _), hco'⟩ ?_)
  have hl₁ : h₁.IsList l vs.toArray := hl.at (S₀.keep l)
  refine wpAny_pyIter_list hl₁ ?_
  have hne : l ≠ h₁.objs.size := by obtain ⟨ob, hob, _⟩ := hl₁; exact Nat.ne_of_lt (Heap.lt_size hob)
  refine ⟨h₁.objs.size, _, _, _, _, _, _, rfl, Walks.list (by exact hr.hh) h₁.objs.size l hne vs.toArray, ?fit, ⟨⟨_, Heap.get?_push_size _ rfl, rfl, rfl⟩, hl₁.at fun _ e => Heap.get?_push_of_some _ e⟩, ?fp, ?nl, S₀.ns.push _, ?quiet, ?rest⟩
  case fit => rw [List.size_toArray, hv.1, sizeLine_eq]; omega
  case fp =>
    intro b hb
    rw [show ({ s with heap := h₁, toks := tk } : Shared).heap = h₁ from rfl] at *
    simp only [List.mem_cons, List.not_mem_nil, or_false] at hb
    rw [Heap.size_push]
    rcases hb with rfl | rfl
    · exact Nat.lt_succ_self _
    · obtain ⟨ob, hob, _⟩ := hl₁; exact Nat.lt_succ_of_lt (Heap.lt_size hob)
  case nl => intro hm; exact absurd S₀.ns.lt (by rw [show s.heap.objs.size = h₁.objs.size from List.mem_singleton.mp hm]; exact Nat.lt_irrefl _)
  case quiet =>
    refine ⟨fun C i v s₃ m₃ E' hC hP hn hm hk htk => ?_, fun C i v s₃ m₃ E' hC hP _ hn hm hk htk => ?_⟩
    · exact wpAny_pure ⟨rfl, s₃.heap, s₃.toks, rfl, fun _ _ e => e⟩
    · obtain ⟨h₃, g₃, d₃, tk₃, o₃⟩ := s₃
      have hP : vs.toArray[i]? = some v := hP
      have hi : i < ws.length := by
        have := (Array.getElem?_eq_some_iff.mp hP).1
        rw [← hv.1]; simpa using this
      obtain ⟨t₀, ht₀⟩ := hv.2 i ws[i] (by simp [hi])
      have hvv : v = Value.int (ws[i] : Nat) t₀ := by
        rw [List.getElem?_toArray, ht₀] at hP; exact (Option.some.inj hP).symm
      subst hvv
      have hwi := hlt ws[i] (List.getElem_mem hi)
      have hk₁ : ∀ b ob, h₁.get? b = some ob → h₃.get? b = some ob := fun b ob e =>
        hk b ob (fun hm => Nat.lt_irrefl _ (by have := Heap.lt_size e; rwa [show b = h₁.objs.size from List.mem_singleton.mp hm] at this)) (Heap.get?_push_of_some _ e)
      have hl₃ : h₃.IsList l vs.toArray := hl₁.at fun o e => hk₁ l o e
      have G₃ : Gd w mg mb h₃ := (S₀.good G).keeps hk₁
      refine wpAny_BinOp (wpAny_BinOp (cSx [109] (by decide +kernel) fun _ _ => ldLoc hn hm (mulSx (by omega) fun _ _ => wpAny_BinOp (cSx [97] (by decide +kernel) fun _ _ => wpAny_BinOp (wpAny_BinOp (ldLoc hn hm (cInt fun _ _ => modI (by decide) fun _ _ =>
        lenL G₃ (ldCell rfl (hk₁ _ _ (S₀.get (.head _))) hco' ⟨l, _, rfl, hl₃, ?_, fun _ _ => mulI ?_ ?_ fun _ _ => mulSxZ (ws[i] % 2 * ws.length) ?_ ?_ fun _ _ => addSx ?_ ?_ fun t' _ => ⟨⟨ws[i], t₀, t', rfl, rfl⟩, _, _, rfl, fun _ _ e => e⟩⟩))))))))
      · rw [List.size_toArray, hv.1]; omega
      · rw [show (ws[i] : Int).fmod 2 = ((ws[i] % 2 : Nat) : Int) from fmod_cast _ 2]; omega
      · rw [show (ws[i] : Int).fmod 2 = ((ws[i] % 2 : Nat) : Int) from fmod_cast _ 2]; omega
      · rw [show (ws[i] : Int).fmod 2 = ((ws[i] % 2 : Nat) : Int) from fmod_cast _ 2, List.size_toArray, hv.1]; push_cast; rfl
      · exact Nat.le_trans (Nat.mul_le_mul (Nat.le_of_lt_succ (Nat.mod_lt _ (by decide))) hz) (by decide)
      · rw [List.length_replicate]; omega
      · rw [List.length_replicate]; exact Nat.le_trans (Nat.mul_le_mul (Nat.le_of_lt_succ (Nat.mod_lt _ (by decide))) hz) (by decide)
  case rest =>
    intro D h' tk' ys vs' hD hD' hDp hlen hP hF hn hk
    have hk₁ : ∀ b ob, b ≠ s.heap.objs.size → h₁.get? b = some ob → h'.get? b = some ob := fun b ob hb e =>
      hk b ob hb (fun hm => Nat.lt_irrefl _ (by have := Heap.lt_size e; rwa [show b = h₁.objs.size from List.mem_singleton.mp hm] at this)) (Heap.get?_push_of_some _ e)
    obtain ⟨nD, oD⟩ := hDp
    have hDn : h₁.get? D = none := by
      cases e : h₁.get? D with
      | none => rfl
      | some ob => have := Heap.get?_push_of_some (h := h₁) { cls := .type "list_iterator", data := .fields #[Value.ref l, Value.int 0 0] } e; rw [hD] at this; cases this
    have S₁ : St s.heap s.heap.objs.size h' (setV (q "texts") (.ref D) m₀) [(D, { cls := .type "list", data := .seq ys nD }), (s.heap.objs.size + 1, co)] := by
      refine ⟨hn, fun b ob e => hk₁ b ob (Nat.ne_of_lt (Heap.lt_size e)) (S₀.keep b ob e), S₀.out, fun p hp => ?_, ?_⟩
      · rcases List.mem_cons.mp hp with rfl | hp
        · refine ⟨oD, fun e => ?_, none_of S₀.keep hDn⟩
          obtain ⟨oL, _, _, hoL, _⟩ := S₀.ns
          rw [← e] at hoL; simp only at hoL; rw [hDn] at hoL; cases hoL
        · rw [List.mem_singleton.mp hp]
          exact ⟨hk₁ _ _ (Nat.succ_ne_self _) (S₀.get (.head _)), Nat.succ_ne_self _, (S₀.nw _ (.head _)).2.2⟩
      · simp only [List.map_cons, List.map_nil, List.nodup_cons, List.mem_singleton, List.not_mem_nil, not_false_eq_true, List.nodup_nil, and_true]
        intro e; have := S₀.get (.head _); rw [← e, hDn] at this; cases this
    have hvs : vs' = vs := list_of_places (items := vs.toArray) (by rw [hlen]) hP
    have hys : TextsAre ys.toList ws := texts_of hv (by rw [hvs, List.filter_eq_self.mpr (fun _ _ => rfl)] at hF; exact hF)
    obtain ⟨B, S₂, hB, hin, _⟩ := (S₁.sub (List.nil_sublist _)).freeze
    have GB : Gd w mg mb B := G.keeps hB
    have hc : B.get? (s.heap.objs.size + 1) = some co := hin _ _ (S₁.get (.tail _ (.head _))) (Nat.succ_ne_self _) (fun hm => nomatch hm)
    have hD : B.IsList D ys.toList.toArray := ⟨_, hin _ _ oD ((S₁.nw _ (.head _)).2.1) (fun hm => nomatch hm), rfl, nD, by simp⟩
    have hlB : B.IsList l vs.toArray := hl.at fun _ e => hB _ _ e
    have hk₂ : ∀ b ob, s.heap.get? b = some ob → B.get? b = some ob := hB
    clear hB hin S₁ hk hk₁ hF hP hlen hn oD hDn S₀
    show wpAny _ _ (execs _ _) _ _ _
    refine wpAny_execs_cons (assignN (cInt fun t₀ _ => sto S₂ fun h₃ k₃ S₃ => ?_))
    refine wpAny_execs_cons (for_rangeS ws.length (fun i B' m news => B = B' ∧ [] = news ∧ m (q "texts") = some (.ref D) ∧ ∃ t, m (q "more") = some (.int ((tri i : Int) - 2 * invTo ws i) t)) hr.hh (by omega) ?start ?turn ?done)
    case start =>
      refine rngN (S₃.good GB) (lenL (S₃.good GB) (ldCell rfl (S₃.keep _ _ hc) hco' ⟨l, _, rfl, hlB.at (S₃.keep l), ?_, fun t k => ⟨_, t, rfl, B, _, _, [], S₃, fun r t u v h' tk' S' => ?_⟩⟩))
      · rw [List.size_toArray, hv.1]; omega
      · refine ⟨B, h', _, [], r, t, u, v, _, rfl, rfl, ?_, S'.sub (List.nil_sublist _), rfl, rfl, setV_ne (by decide) setV_eq, ⟨t₀, setV_eq⟩⟩
        have := S'.get (.head _)
        rw [List.size_toArray, hv.1] at this
        exact this
    case turn =>
      rintro i _ h₄ m _ k₄ it oi t hi ⟨rfl, rfl, hmt, tm, hmm⟩ S₄
      refine wpAny_execs_cons (for_rangeS i (fun j B' m news => B = B' ∧ [(it, oi)] = news ∧ m (q "texts") = some (.ref D) ∧ m (q "k") = some (.int (i : Nat) t) ∧ ∃ t, m (q "more") = some (.int ((tri i : Int) + j - 2 * (invTo ws i + cntTo ws i j : Nat)) t)) hr.hh (by omega) ?start2 ?turn2 ?done2)
      case start2 =>
        refine rngN (S₄.good GB) (ldS S₄ setV_eq ⟨_, t, rfl, B, _, _, [(it, oi)], S₄, fun r t' u v h' tk' S' => ⟨B, h', _, [(it, oi)], r, t', u, v, _, rfl, rfl, S'.get (.head _), S'.sub (List.sublist_cons_self _ _), rfl, rfl, setV_ne (by decide) hmt, setV_eq, tm, setV_ne (by decide) ?_⟩⟩)
        rw [hmm]; simp [cntTo]
      case turn2 =>
        rintro j _ h₅ m₅ _ k₅ it₂ oi₂ t₂ hj ⟨rfl, rfl, hmt₅, hmk₅, tm₅, hmm₅⟩ S₅
        obtain ⟨ti, hyi⟩ := hys.2 i ws[i] (by simp [hi])
        obtain ⟨tj, hyj⟩ := hys.2 j ws[j] (by simp [Nat.lt_trans hj hi])
        have hD₅ : h₅.IsList D ys.toList.toArray := hD.at (S₅.keep D)
        refine wpAny_execs_cons (wpAny_AugAssign_Name (ldnS S₅ (setV_ne (by decide) hmm₅) (callF (S₅.good GB) ns_coll kp_coll (arg2
          (Subscript_ (ldS S₅ (setV_ne (by decide) hmt₅) (ldS S₅ (setV_ne (by decide) hmk₅) (item_listL hD₅ (by omega) (by omega) (by simpa using hyi) ?_))))))))
        refine Subscript_ (ldS S₅ (setV_ne (by decide) hmt₅) (ldS S₅ setV_eq (item_listL hD₅ (by omega) (by omega) (by simpa using hyj) ?_)))
        refine ⟨S₅.good GB, coll_call (S₅.good GB) (hr.deeper _) _ _ _ _ fun h₆ k₆ t₆ hk₆ => ?_⟩
        show wpAny _ _ (inplaceOp _ _ _) _ _ _
        refine iaddI fun t₇ k₇ => sto (S₅.keeps hk₆) fun h₈ k₈ S₈ => wpAny_execs_nil (Turn.nxt S₈ ⟨rfl, rfl, setV_ne (by decide) (setV_ne (by decide) hmt₅), setV_ne (by decide) (setV_ne (by decide) hmk₅), t₇, ?_⟩)
        rw [setV_eq]
        have hij : ws[i] ≠ ws[j] := fun e => by
          have := (List.getElem_inj hnd).mp e
          omega
        rw [tx_ne hij, tx_ne (Ne.symm hij)]
        have e2 : cntTo ws i (j + 1) = cntTo ws i j + if ws[i] < ws[j] then 1 else 0 := by
          show cntTo ws i j + (if ws.getD i 0 < ws.getD j 0 then 1 else 0) = _
          simp [List.getD, hi, Nat.lt_trans hj hi]
        rw [e2]
        congr 2
        by_cases hc' : ws[i] < ws[j]
        · have h2 : ¬ ws[j] < ws[i] := by omega
          simp only [hc', h2, decide_true, decide_false, b2i, if_true]
          simp; omega
        · have h2 : ws[j] < ws[i] := by omega
          simp only [hc', h2, decide_true, decide_false, b2i, if_true, if_false]
          simp; omega
      case done2 =>
        rintro _ h₅ m₅ _ k₅ ⟨rfl, rfl, hmt₅, _, tm₅, hmm₅⟩ S₅
        refine wpAny_execs_nil (Turn.nxt S₅ ⟨rfl, rfl, hmt₅, tm₅, ?_⟩)
        rw [hmm₅]
        congr 2
    case done =>
      rintro _ h₄ m _ k₄ ⟨rfl, rfl, hmt, tm, hmm⟩ S₄
      have hl₄ : h₄.IsList l vs.toArray := hlB.at (S₄.keep l)
      have hsz : (vs.toArray.size : Int) = ws.length := by rw [List.size_toArray, hv.1]
      refine wpAny_execs_cons (assignN (wpAny_BinOp (wpAny_BinOp (wpAny_BinOp (lenL (S₄.good GB) (ldCell rfl (S₄.keep _ _ hc) hco' ⟨l, _, rfl, hl₄, by omega, fun t₅ k₅ => ?_⟩))))))
      refine wpAny_BinOp (lenL (S₄.good GB) (ldCell rfl (S₄.keep _ _ hc) hco' ⟨l, _, rfl, hl₄, by omega, fun t₆ k₆ => cInt fun t₇ k₇ => subI fun t₈ k₈ => mulI (by omega) (by omega) fun t₉ k₉ => cInt fun _ _ => fdvI (by decide) (by decide) fun t₁ k₁ => ldS S₄ hmm (subI fun t₂ k₂ => sto S₄ fun h₅ k₅' S₅ => ?_)⟩))
      have e1 : ((vs.toArray.size : Int) * ((vs.toArray.size : Int) - 1)).fdiv 2 - ((tri ws.length : Int) - 2 * (invTo ws ws.length : Nat)) = 2 * (inv ws : Int) := by
        rw [hsz, tri_fdiv]; unfold inv; omega
      rw [e1] at S₅
      refine wpAny_execs_cons (wpAny_If (wpAny_isTrue_Compare1 (wpAny_BinOp (ldS S₅ setV_eq (cInt fun _ _ => modI (by decide) fun _ _ => cInt fun _ _ => gtI (wpAny_truthy_bool ?_))))))
      have e2 : (2 * (inv ws : Int)).fmod 2 = 0 := by
        rw [Int.fmod_eq_emod_of_nonneg _ (by omega)]; omega
      rw [e2]
      refine wpAny_execs_nil (wpAny_execs_cons (wpAny_Return_some (wpAny_BinOp (ldS S₅ setV_eq (cInt fun _ _ => fdvI (by decide) (by decide) fun t₃ k₃ => ?_)))))
      have e3 : (2 * (inv ws : Int)).fdiv 2 = inv ws := by
        rw [Int.fdiv_eq_ediv_of_nonneg _ (by omega)]; omega
      rw [e3]
      exact h _ _ _ fun b ob e => S₅.keep _ _ (hk₂ b ob e)
end
end Mine

namespace Mine
set_option maxRecDepth 100000
section
variable {w : World} {prog : Program} {mg mb : Str → Option Value} {A : Around} {s : Shared} {R : Result → Shared → Prop}
theorem gcd_call (G : Gd w mg mb s.heap) (hr : Rm 1 A) (a b : Nat) (ta tb : Tok)
    (h : ∀ h' tk t, (∀ x o, s.heap.get? x = some o → h'.get? x = some o) → R (.ok (.ret (.int (Nat.gcd a b : Nat) t))) { s with heap := h', toks := tk }) :
    codeAny (model prog w) A (.call (.ref 86) ⟨[.int a ta, .int b tb], []⟩) R s := by
  refine call_def (f := 86) G hr.room rfl ?c ?b ?l (fun h₁ tk S => ?_) rfl rfl rfl ?x
  case c => kernel_rfl
  case b => rfl
  case l => rfl
  case x => rfl
  refine wpAny_execs_cons (while_S (fun n s' => ∃ h' tk m x tx y ty, s' = { s with heap := h', toks := tk } ∧ St s.heap s.heap.objs.size h' m [] ∧ m (q "a") = some (.int (x : Nat) tx) ∧ m (q "b") = some (.int (y : Nat) ty) ∧ Nat.gcd x y = Nat.gcd a b ∧ y = n) ?_ b ⟨_, _, _, a, ta, b, tb, rfl, S, rfl, rfl, rfl, rfl⟩)
  rintro n s' ⟨h', tk', m, x, tx, y, ty, rfl, S', ha, hb, hg, rfl⟩
  refine wpAny_isTrue_Compare1 (ldS S' hb (cInt fun _ _ => gtI (wpAny_truthy_bool ?_)))
  split
  · rename_i hy
    have hy : 0 < y := by simpa using hy
    refine wpAny_execs_cons (Assign_Tuple_swapped (tupD (wpAny_items_cons (ldS S' hb (wpAny_items_cons (wpAny_BinOp (ldS S' ha (ldS S' hb (modI (by omega) fun t₁ tk₁ => wpAny_items_nil ⟨_, _, _, _, S', two_fits, fun tp h₂ S₂ _ => ?_⟩)))))))) rfl rfl)
    refine unpackItems_tuple (items := #[.int y ty, .int ((x : Int).fmod y) t₁]) hr.hh ⟨_, S₂.get (.head _), rfl, _, rfl⟩ (fun h₃ he => ?_)
    have S₃ := (S₂.keeps (fun b o e => he b o (Nat.ne_of_lt (Heap.lt_size e)) e)).sub (List.nil_sublist _)
    refine assignInOrder_cons (wpAny_bindName (sto S₃ fun h₄ tk₄ S₄ => ?_))
    refine assignInOrder_cons (wpAny_bindName (sto S₄ fun h₅ tk₅ S₅ => ?_))
    refine assignInOrder_nil (wpAny_execs_nil ?_)
    refine ⟨x % y, Nat.mod_lt _ hy, h₅, _, _, y, ty, x % y, t₁, rfl, S₅, setV_eq, setV_ne (by decide) (by rw [← fmod_cast]; exact setV_eq), ?_, rfl⟩
    rw [← hg, Nat.gcd_comm x y, Nat.gcd_rec y x]
    exact Nat.gcd_comm _ _
  · refine wpAny_execs_cons (wpAny_Return_some (ldS S' ha ?_))
    rename_i hy
    have hy : y = 0 := by simpa using hy
    subst hy
    have e : x = Nat.gcd a b := by rw [← hg]; simp
    show R (.ok (.ret (.int (x : Int) tx))) _
    rw [e]
    exact h _ _ _ S'.keep
end
end Mine

namespace Mine
set_option maxRecDepth 100000
/-- the values are refs of pairs of texts -/
def TupsAre (h : Heap) (vs : List Value) (ds : List (List Nat × List Nat)) : Prop :=
  vs.length = ds.length ∧ ∀ (i : Nat) (p : List Nat × List Nat), ds[i]? = some p → ∃ t ta tb, vs[i]? = some (Value.ref t) ∧ IsTup h t [Value.str (sx p.1) ta, Value.str (sx p.2) tb].toArray
theorem isTup_keeps {h h' : Heap} {t : Addr} {its : Array Value} (x : IsTup h t its) (hk : ∀ b o, h.get? b = some o → h'.get? b = some o) : IsTup h' t its :=
  let ⟨o, ho, r⟩ := x; ⟨o, hk _ _ ho, r⟩
theorem TupsAre.keeps {h h' : Heap} {vs : List Value} {ds : List (List Nat × List Nat)} (x : TupsAre h vs ds) (hk : ∀ b o, h.get? b = some o → h'.get? b = some o) : TupsAre h' vs ds :=
  ⟨x.1, fun i p hp => let ⟨t, ta, tb, a, b⟩ := x.2 i p hp; ⟨t, ta, tb, a, isTup_keeps b hk⟩⟩
/-- what _post_parse_validation makes of them -/
def OutAre (h : Heap) (vs : List Value) (ds : List (List Nat × List Nat)) (rs : List Value) : Prop :=
  rs.length = ds.length ∧ ∀ (i : Nat) (p : List Nat × List Nat), ds[i]? = some p → if 91 ∈ p.2 then ∃ t ta tb, rs[i]? = some (Value.ref t) ∧ IsTup h t [Value.str (sx []) ta, Value.str (sx []) tb].toArray else rs[i]? = vs[i]?
theorem OutAre.keeps {h h' : Heap} {vs rs : List Value} {ds : List (List Nat × List Nat)} (x : OutAre h vs ds rs) (hk : ∀ b o, h.get? b = some o → h'.get? b = some o) : OutAre h' vs ds rs := by
  refine ⟨x.1, fun i p hp => ?_⟩
  have := x.2 i p hp
  split
  · rename_i hb
    rw [if_pos hb] at this
    obtain ⟨t, ta, tb, a, b⟩ := this
    exact ⟨t, ta, tb, a, isTup_keeps b hk⟩
  · rename_i hb
    rw [if_neg hb] at this
    exact this
theorem OutAre.snoc {h : Heap} {vs rs : List Value} {ds : List (List Nat × List Nat)} {i : Nat} {p : List Nat × List Nat} {r : Value} (x : OutAre h vs (ds.take i) rs) (hp : ds[i]? = some p)
    (hr : if 91 ∈ p.2 then ∃ t ta tb, r = Value.ref t ∧ IsTup h t [Value.str (sx []) ta, Value.str (sx []) tb].toArray else vs[i]? = some r) : OutAre h vs (ds.take (i + 1)) (rs ++ [r]) := by
  have hi : i < ds.length := (List.getElem?_eq_some_iff.mp hp).1
  have hl : rs.length = i := by rw [x.1, List.length_take]; omega
  have ht : ds.take (i + 1) = ds.take i ++ [p] := by rw [List.take_add_one, hp]; rfl
  refine ⟨by rw [ht]; simp [x.1], fun j p' hp' => ?_⟩
  rw [ht] at hp'
  have hlt : (ds.take i).length = i := by rw [List.length_take]; omega
  by_cases hj : j < i
  · rw [List.getElem?_append_left (by omega)] at hp' ⊢
    exact x.2 j p' hp'
  · have hj' : j = i := by
      have := (List.getElem?_eq_some_iff.mp hp').1
      simp [hlt] at this
      omega
    subst hj'
    rw [List.getElem?_append_right (by omega), hlt] at hp'
    simp at hp'
    subst hp'
    rw [List.getElem?_append_right (by omega), hl]
    simp only [Nat.sub_self, List.getElem?_cons_zero]
    split
    · rename_i hb
      rw [if_pos hb] at hr
      obtain ⟨t, ta, tb, rfl, b⟩ := hr
      exact ⟨t, ta, tb, rfl, b⟩
    · rename_i hb
      rw [if_neg hb] at hr
      exact hr.symm

section
variable {w : World} {prog : Program} {mg mb : Str → Option Value} {A : Around} {E : Value → Shared → Prop} {h : Heap} {g : Array GenState} {d : Drawn} {tk : Nat} {o : OsState} {env : Env}

/-- x.append(e) -/
theorem appS {x : Str} {p p' p'' pos : Pos} {e : Expr} {Q : Flow → Shared → Prop} {D : Addr} {B : Heap} {m : Str → Option Value} {news : List (Addr × Obj)} {rs : List Value} {n : Nat} {pl : Sem Bool}
    (S : St B env.locals h m news) (hx : m x = some (.ref D)) (hD : (D, ({ cls := .type "list", data := .seq rs.toArray n } : Obj)) ∈ news)
    (he : wpAny (model prog w) A (eval e env) (fun v s₁ => ∃ B' h' m' news' tk' i rs' n', s₁ = ⟨h', g, d, tk', o⟩ ∧ St B' env.locals h' m' news' ∧ news'[i]? = some (D, ({ cls := .type "list", data := .seq rs'.toArray n' } : Obj)) ∧ rs'.length < 10000 ∧
      ∀ h'', St B' env.locals h'' m' (news'.set i (D, { cls := .type "list", data := .seq (rs' ++ [v]).toArray (n' + 1) })) → Q .next ⟨h'', g, d, tk', o⟩) E ⟨h, g, d, tk, o⟩)
    (hk : env.scope.kind = .function := by rfl) (hl : env.kindOf x = some .local := by rfl) (hd : (x == ("__debug__" : Str)) = false := by decide)
    (hi : interactive env = false := by rfl) (hs : swapsWith (.Call (.Attribute (.Name x p) (q "append") p') [e] [] p'') none pos.line env = pure false := by rfl)
    (hst : starEach [e] env = [(false, eval e env)] := by rfl)
    (hc : eval (.Call (.Attribute (.Name x p) (q "append") p') [e] [] p'') env = (do
          let ov ← eval (.Name x p) env
          standAt p'.atName
          match ← holding [ov] (getMethod ov (q "append") pl) with
          | (f, first) => callWith p'' f first (backTo p'' (starEach [e] env)) []) := by rfl) :
    wpAny (model prog w) A (exec (.Expr (.Call (.Attribute (.Name x p) (q "append") p') [e] [] p'') pos) env) Q E ⟨h, g, d, tk, o⟩ := by
  refine wpAny_Expr (MethodCall_ (ldS S hx (getMethod_list_append (S.get hD) rfl rfl (PyProof.Rows.callWith_method1 (arg1 (wpAny_mono he (fun v s₁ hv => ?_) fun _ _ x => x) hst) hst rfl)) hk hl hd) hc) hi hs
  obtain ⟨B', h', m', news', tk', i, rs', n', rfl, S', hi', hz, hq⟩ := hv
  refine append_at (S'.get (List.mem_of_getElem? hi')) (fun h'' hs' ho => ?_) (by rw [List.size_toArray, sizeLine_eq]; omega)
  have := S'.upd i hi' hs' ho
  rw [List.push_toArray] at this
  exact hq h'' this

theorem post_call {s : Shared} {R : Result → Shared → Prop} (G : Gd w mg mb s.heap) (hr : Rm 1 A) {l : Addr} {vs : List Value} {ds : List (List Nat × List Nat)} (hl : s.heap.IsList l vs.toArray) (hv : TupsAre s.heap vs ds) (hz : ds.length < 10000)
    (h : ∀ h' tk r rs, (∀ x o, s.heap.get? x = some o → h'.get? x = some o) → h'.IsList r rs.toArray → OutAre h' vs ds rs → R (.ok (.ret (.ref r))) { s with heap := h', toks := tk }) :
    codeAny (model prog w) A (.call (.ref 21) ⟨[.ref l], []⟩) R s := by
  refine call_def (f := 21) G hr.room rfl ?c ?b ?l (fun h₁ tk S => ?_) rfl rfl rfl ?x
  case c => kernel_rfl
  case b => rfl
  case l => rfl
  case x => rfl
  refine wpAny_execs_cons (assignN (lstD (args_nil ⟨_, _, _, _, S, Nat.zero_le _, fun D h₂ S₂ _ => sto S₂ fun h₃ k₃ S₃ => ?_⟩)))
  refine wpAny_execs_cons (for_listS vs (fun i B m news => (∀ b o, s.heap.get? b = some o → B.get? b = some o) ∧ ∃ rs n, [(D, ({ cls := .type "list", data := .seq rs.toArray n } : Obj))] = news ∧ m (q "accepted_values") = some (.ref D) ∧ OutAre B vs (ds.take i) rs) hr.hh ?start ?turn ?done)
  case start =>
    refine ldS S₃ (setV_ne (by decide) rfl) ⟨_, h₃, _, _, l, _, rfl, rfl, fun i B m news hJ => hl.at fun o e => hJ.1 _ _ e, S₃, fun _ _ e => e, [], _, rfl, setV_eq, ⟨rfl, fun i p hp => by simp at hp⟩⟩
  case turn =>
    rintro i v B h₄ m _ k₄ it oi hvi ⟨hB, rs, n, rfl, hma, hO⟩ S₄
    have hi : i < ds.length := by rw [← hv.1]; exact (List.getElem?_eq_some_iff.mp hvi).1
    have hp : ds[i]? = some ds[i] := by simp [hi]
    obtain ⟨t, ta, tb, e, hT⟩ := hv.2 i _ hp
    obtain rfl : v = .ref t := by rw [e] at hvi; exact (Option.some.inj hvi).symm
    have hT₄ : IsTup h₄ t [Value.str (sx ds[i].1) ta, Value.str (sx ds[i].2) tb].toArray := isTup_keeps hT fun b ob e => S₄.keep _ _ (hB b ob e)
    have hrl : rs.length = i := by rw [hO.1, List.length_take]; omega
    refine wpAny_execs_cons (wpAny_If (wpAny_isTrue_Compare1 (cSx [91] (by decide +kernel) fun _ _ => Subscript_ (ldS S₄ setV_eq (cInt fun _ _ => item_tupleL hT₄ (by omega) (by omega) rfl rfl (inSx (wpAny_truthy_bool ?_)))))))
    split
    · rename_i hb
      have hb : 91 ∈ ds[i].2 := by simpa using hb
      refine wpAny_execs_cons (assignN (tupD (wpAny_items_cons (cSx [] (by decide +kernel) fun t₁ k₁ => wpAny_items_cons (cSx [] (by decide +kernel) fun t₂ k₂ => wpAny_items_nil ⟨_, _, _, _, S₄, two_fits, fun tp h₅ S₅ _ => sto S₅ fun h₆ k₆ S₆ => ?_⟩)))))
      have hT₆ := S₆.get (.head _)
      obtain ⟨B₂, S₇, hB₂, hin, _⟩ := (S₆.sub (List.sublist_cons_self _ _)).freeze
      have hne : tp ∉ ([(it, oi), (D, ({ cls := .type "list", data := .seq rs.toArray n } : Obj))].map (·.1)) := (List.nodup_cons.mp S₆.nd).1
      have hTB := hin _ _ hT₆ ((S₆.nw _ (.head _)).2.1) hne
      refine wpAny_execs_nil (wpAny_execs_cons (appS S₇ (setV_ne (by decide) (setV_ne (by decide) hma)) (.tail _ (.head _)) (ldS S₇ setV_eq ⟨B₂, h₆, _, _, k₆, 1, rs, n, rfl, S₇, rfl, by omega, fun h₈ S₈ => wpAny_execs_nil (Turn.nxt S₈ ⟨fun b ob e => hB₂ b ob (hB b ob e), _, _, rfl, setV_ne (by decide) (setV_ne (by decide) hma), (hO.keeps hB₂).snoc hp ?_⟩)⟩)))
      rw [if_pos hb]
      exact ⟨tp, t₁, t₂, rfl, _, hTB, rfl, _, rfl⟩
    · rename_i hb
      have hb : 91 ∉ ds[i].2 := by simpa using hb
      refine wpAny_execs_nil (wpAny_execs_cons (appS S₄ (setV_ne (by decide) hma) (.tail _ (.head _)) (ldS S₄ setV_eq ⟨B, h₄, _, _, _, 1, rs, n, rfl, S₄, rfl, by omega, fun h₈ S₈ => wpAny_execs_nil (Turn.nxt S₈ ⟨hB, _, _, rfl, setV_ne (by decide) hma, hO.snoc hp ?_⟩)⟩)))
      rw [if_neg hb]
      exact e
  case done =>
    rintro B h₄ m _ k₄ ⟨hB, rs, n, rfl, hma, hO⟩ S₄
    refine wpAny_execs_cons (wpAny_Return_some (ldS S₄ hma ?_))
    rw [hv.1, List.take_length] at hO
    exact h _ _ _ _ (fun b ob e => S₄.keep _ _ (hB b ob e)) ⟨_, S₄.get (.head _), rfl, _, rfl⟩ (hO.keeps S₄.keep)
end
end Mine

namespace Mine
set_option maxRecDepth 100000
section
variable {w : World} {prog : Program} {mg mb : Str → Option Value} {A : Around} {E : Value → Shared → Prop} {h : Heap} {g : Array GenState} {d : Drawn} {tk : Nat} {o : OsState} {env : Env}
variable {B : Heap} {L : Addr} {m : Str → Option Value} {news : List (Addr × Obj)}

/-- x[:j] of a text -/
theorem slTo {l : List Nat} {j : Nat} {t uj : Tok} {Q : Value → Shared → Prop} (S : St B L h m news) (hj : j ≤ l.length) (hl : l.length ≤ 10000)
    (hQ : ∀ h' t' tk', St B L h' m news → Q (.str (sx (l.take j)) t') ⟨h', g, d, tk', o⟩) :
    ItemOn (model prog w) A E (.str (sx l) t) (.ref h.objs.size) Q ⟨h.push { cls := .type "slice", data := .fields #[.none, .int j uj, .none] }, g, d, tk, o⟩ := by
  refine SBH.sliceItem_ns (s := ⟨h, g, d, tk, o⟩) (P := fun h' => ∀ b o, h.get? b = some o → h'.get? b = some o) (fun h₁ ob hk b o e => Heap.get?_push_of_some _ (hk b o e)) (fun _ _ e => e) (fun h' t' k hk => ?_) (by rw [sx_len, sizeLine_eq]; omega)
  have e : Txt.slice (sx l) none (some (j : Int)) = sx (l.take j) := by
    show StrLaws.sliceText (sx l) none (some (j : Int)) = _
    rw [StrLaws.sliceText_to ⟨by omega, by rw [sx_list]; omega⟩, sx_list]
    simp [sx]
  rw [e]
  exact hQ h' t' k (S.keeps hk)
/-- x[i:j] of a text -/
theorem slFT {l : List Nat} {i j : Nat} {t ui uj : Tok} {Q : Value → Shared → Prop} (S : St B L h m news) (hij : i ≤ j) (hj : j ≤ l.length) (hl : l.length ≤ 10000)
    (hQ : ∀ h' t' tk', St B L h' m news → Q (.str (sx ((l.drop i).take (j - i))) t') ⟨h', g, d, tk', o⟩) :
    ItemOn (model prog w) A E (.str (sx l) t) (.ref h.objs.size) Q ⟨h.push { cls := .type "slice", data := .fields #[.int i ui, .int j uj, .none] }, g, d, tk, o⟩ := by
  refine SBH.sliceItem_ss (s := ⟨h, g, d, tk, o⟩) (P := fun h' => ∀ b o, h.get? b = some o → h'.get? b = some o) (fun h₁ ob hk b o e => Heap.get?_push_of_some _ (hk b o e)) (fun _ _ e => e) (fun h' t' k hk => ?_) (by rw [sx_len, sizeLine_eq]; omega)
  have e : Txt.slice (sx l) (some (i : Int)) (some (j : Int)) = sx ((l.drop i).take (j - i)) := by
    show StrLaws.sliceText (sx l) (some (i : Int)) (some (j : Int)) = _
    rw [StrLaws.sliceText_nat _ hij (by rw [sx_len]; omega), sx_list]; rfl
  rw [e]
  exact hQ h' t' k (S.keeps hk)

theorem IsTup.tuple {t : Addr} {its : Array Value} (x : IsTup h t its) : h.IsTuple t its := x
/-- two pairs of texts -/
theorem eqP {s : Shared} {x y : Addr} {a b a' b' : List Nat} {t₁ t₂ t₃ t₄ : Tok} {Q : Value → Shared → Prop} (hx : s.heap.IsTuple x [Value.str (sx a) t₁, Value.str (sx b) t₂].toArray) (hy : s.heap.IsTuple y [Value.str (sx a') t₃, Value.str (sx b') t₄].toArray) (hu : A.units < cLine)
    (hQ : Q (.bool (a == a' && b == b')) s) : wpAny (model prog w) A (compareOp .Eq (.ref x) (.ref y)) Q E s := by
  refine SeqAt.eq_tupleAt (e := fun j => if j = 0 then sx a == sx a' else sx b == sx b') hx hy hu (fun j h1 h2 => ?_) ?_
  · match j, h1, h2 with
    | 0, _, _ => exact SeqAt.EqAt.str_str _ _ _ _
    | 1, _, _ => exact SeqAt.EqAt.str_str _ _ _ _
  · have e : ((List.range (min [Value.str (sx a) t₁, Value.str (sx b) t₂].toArray.size [Value.str (sx a') t₃, Value.str (sx b') t₄].toArray.size)).all (fun j => if j = 0 then sx a == sx a' else sx b == sx b') && [Value.str (sx a) t₁, Value.str (sx b) t₂].toArray.size == [Value.str (sx a') t₃, Value.str (sx b') t₄].toArray.size) = (a == a' && b == b') := by
      show ((sx a == sx a' && (sx b == sx b' && true)) && true) = _
      rw [Bool.and_true, Bool.and_true]
      have k : ∀ u v : List Nat, (sx u == sx v) = (u == v) := fun u v => by
        rw [Bool.eq_iff_iff, beq_iff_eq, beq_iff_eq]
        exact ⟨fun e => by have := congrArg (fun z => z.cps.toList) e; simpa [sx] using this, fun e => by rw [e]⟩
      rw [k, k]
    rw [e]; exact hQ
theorem neP_same {s : Shared} {x : Addr} {a b : List Nat} {t₁ t₂ : Tok} {Q : Value → Shared → Prop} (hx : s.heap.IsTuple x [Value.str (sx a) t₁, Value.str (sx b) t₂].toArray) (hu : A.units < cLine)
    (hQ : Q (.bool false) s) : wpAny (model prog w) A (compareOp .NotEq (.ref x) (.ref x)) Q E s := by
  refine SeqAt.RcNeAt.tuples (e := fun _ => true) hx hx hu (fun j h1 h2 => SeqAt.EqAt.same _) prog w E Q ?_
  have e : (!((List.range 2).all fun _ => true)) = false := by decide
  show Q (.bool (!((List.range 2).all fun _ => true && true))) s
  simpa [e] using hQ
theorem ne_up {a n : Nat} (k : Nat) (h : a < n) : a ≠ n + k := Nat.ne_of_lt (Nat.lt_of_lt_of_le h (Nat.le_add_right n k))
end

section
variable {w : World} {prog : Program} {A : Around} {g : Array GenState} {d : Drawn} {o : OsState} {env : Env} {Q : Flow → Shared → Prop} {B : Heap}
/-- for a, b in zip(l1, l2) -/
theorem for_zipS {xi xc : Str} {pk pv pt pos : Pos} {x1 : Nat} {iter : Expr} {body : List Stmt} {hs₀ : Heap} {ks₀ : Nat} {l1 l2 : Addr} {vs1 vs2 : List Value} {m₀ : Str → Option Value} (J : Nat → (Str → Option Value) → Prop)
    (hh : A.handled = none) (hB1 : B.IsList l1 vs1.toArray) (hB2 : B.IsList l2 vs2.toArray) (hlen : vs2.length = vs1.length)
    (S₀ : St B env.locals hs₀ m₀ [])
    (h0 : J 0 m₀)
    (start : ∀ Q' : Value → Shared → Prop, (∀ E' tk, wpAny (model prog w) A (call (.type "zip") [.ref l1, .ref l2]) Q' E' ⟨hs₀, g, d, tk, o⟩) →
      wpAny (model prog w) A (eval iter env) Q' NoE ⟨hs₀, g, d, ks₀, o⟩)
    (turn : ∀ i v0 v1 h m tk own, vs1[i]? = some v0 → vs2[i]? = some v1 → J i m → St B env.locals h (setV xc v1 (setV xi v0 m)) own →
      wpAny (model prog w) A (execs body env) (fun f s' => match f with
        | .next | .cont => ∃ h' m' tk', s' = ⟨h', g, d, tk', o⟩ ∧ St B env.locals h' m' own ∧ J (i + 1) m'
        | .brk => Q .next s'
        | .ret v => Q (.ret v) s') NoE ⟨h, g, d, tk, o⟩)
    (done : ∀ h m tk, J vs1.length m → St B env.locals h m [] → Q .next ⟨h, g, d, tk, o⟩)
    (hxi : env.kindOf xi = some .local := by rfl) (hxc : env.kindOf xc = some .local := by rfl) (hp : (env.scope.kind == .class || (env.scope.kind == .module && env.locals != env.globals)) = false := by rfl)
    (hs : ∀ y, foldedSetIterable iter env y = pure y := by intro _; rfl) :
    wpAny (model prog w) A (exec (.For (.Tuple [.Name xi pk, .Name xc pv] x1 pt) iter body [] pos) env) Q NoE ⟨hs₀, g, d, ks₀, o⟩ := by
  refine wpAny_For (start _ fun E' tk => ?_) hs
  have hls1 := hB1.at (S₀.keep l1)
  have hls2 := hB2.at (S₀.keep l2)
  have a1 : l1 < hs₀.objs.size := by obtain ⟨_, e, _⟩ := hls1; exact Heap.lt_size e
  have a2 : l2 < hs₀.objs.size := by obtain ⟨_, e, _⟩ := hls2; exact Heap.lt_size e
  refine call_zip_2 (s := ⟨hs₀, g, d, tk, o⟩) hls1 hls2 fun h' hz hTI hTO hit1 hit2 hsz hk => ?_
  dsimp only at hz hTI hTO hit1 hit2 hsz hk ⊢
  have hLn₀ : env.locals < hs₀.objs.size := S₀.ns.lt
  have hBn₀ : ∀ k, B.get? (hs₀.objs.size + k) = none := fun k => by
    cases q : B.get? (hs₀.objs.size + k) with
    | none => rfl
    | some o => exact absurd (Heap.lt_size (S₀.keep _ _ q)) (Nat.not_lt.mpr (Nat.le_add_right _ _))
  generalize hs₀.objs.size = n at hz hTI hTO hit1 hit2 hsz a1 a2 hLn₀ hBn₀ ⊢
  have D : ZipApart (n + 4) (n + 2) (n + 3) n (n + 1) l1 l2 := zipApart_new a1 a2
  have W := WalksT.zip2 (prog := prog) (w := w) hh (n + 4) (n + 2) (n + 3) n (n + 1) l1 l2 D vs1.toArray vs2.toArray
  have hst : IsZip h' (n + 4) (n + 2) (n + 3) .none ∧ IsPair h' (n + 2) (.ref n) (.ref (n + 1)) ∧ (∃ a b, IsPair h' (n + 3) a b) ∧ h'.IsListIter n l1 0 ∧ h'.IsListIter (n + 1) l2 0 ∧ h'.IsList l1 vs1.toArray ∧ h'.IsList l2 vs2.toArray :=
    ⟨hz, hTI, ⟨_, _, hTO⟩, hit1, hit2, hls1.at (hk l1), hls2.at (hk l2)⟩
  refine W.self 0 _ _ _ hst ?_
  have S₁ : St B env.locals h' m₀ [] := S₀.keeps hk
  have hnB := hBn₀
  have hLn := hLn₀
  have hmin : min vs1.toArray.size vs2.toArray.size = vs1.length := by simp [hlen]
  rw [hmin] at W
  have hLw : env.locals ∉ [n + 4, n + 3, n, n + 1] := fun hm => by
    simp only [List.mem_cons, List.not_mem_nil, or_false] at hm
    rcases hm with e | e | e | e
    · exact ne_up 4 hLn e
    · exact ne_up 3 hLn e
    · exact ne_up 0 hLn e
    · exact ne_up 1 hLn e
  have hwB : ∀ b ∈ [n + 4, n + 3, n, n + 1], B.get? b = none := fun b hb => by
    simp at hb
    rcases hb with rfl | rfl | rfl | rfl
    · exact hnB 4
    · exact hnB 3
    · exact hnB 0
    · exact hnB 1
  have next : ∀ {H h₁ : Heap} {m'}, St B env.locals H m' [] → (∀ b o, b ∉ [n + 4, n + 3, n, n + 1] → H.get? b = some o → h₁.get? b = some o) → St B env.locals h₁ m' [] := fun S hk₁ =>
    ⟨S.ns.at' fun o e => hk₁ _ o hLw e, fun b o e => hk₁ b o (fun hb => by rw [hwB b hb] at e; cases e) (S.keep b o e), S.out, (fun _ hp => nomatch hp), .nil⟩
  refine codeAny_forLoop_any
    (fun k s' => ∃ H tk m' i, s' = ⟨H, g, d, tk, o⟩ ∧ (IsZip H (n + 4) (n + 2) (n + 3) .none ∧ IsPair H (n + 2) (.ref n) (.ref (n + 1)) ∧ (∃ a b, IsPair H (n + 3) a b) ∧ H.IsListIter n l1 i ∧ H.IsListIter (n + 1) l2 i ∧ H.IsList l1 vs1.toArray ∧ H.IsList l2 vs2.toArray) ∧ St B env.locals H m' [] ∧ J i m' ∧ i ≤ vs1.length ∧ k = vs1.length + 1 - i) ?_ (vs1.length + 1)
    ⟨h', _, m₀, 0, rfl, hst, S₁, h0, Nat.zero_le _, rfl⟩
  rintro k s' ⟨H, tk', m', i, rfl, hst', S', hJ, hi, rfl⟩
  by_cases hlt : i < vs1.length
  · refine W.item i _ _ _ hlt hst' fun T vals h₁ tk₁ hPt _ hT hMid hk₁ => ?_
    obtain ⟨v0, v1, hv0, hv1, rfl⟩ := hPt
    refine W.go _ x1 pt i T _ _ _ hMid fun h₂ hst₂ hk₂ => ?_
    have ht₂ : h₂.IsTuple T #[v0, v1] := hT.at fun o e => hk₂ T o (W.apart i T h₁ hMid) e
    refine wpAny_assign_Tuple hh ht₂ rfl rfl fun h₃ hx₃ => ?_
    replace hx₃ : Heap.ExtBut h₂.objs.size h₂ h₃ := hx₃
    have up₃ : ∀ b o, h₂.get? b = some o → h₃.get? b = some o := fun b o x => hx₃ b o (Nat.ne_of_lt (Heap.lt_size x)) x
    have S₃ : St B env.locals h₃ m' [] := (next (next S' hk₁) hk₂).keeps up₃
    show wpAny _ A (do holding [v1] (assign (.Name xi pk) env v0); do holding [] (assign (.Name xc pv) env v1); pure ()) _ _ _
    refine wpAny_bind (wpAny_holding (wpAny_assign_Name (wpAny_storeName_local hxi S₃.ns (fun h₄ hn₄ hs₄ => ?_) hp)))
    replace hs₄ : Heap.SameBut env.locals h₃ h₄ := hs₄
    have S₄ := S₃.set hn₄ hs₄
    refine wpAny_bind (wpAny_holding (wpAny_assign_Name (wpAny_storeName_local hxc S₄.ns (fun h₅ hn₅ hs₅ => wpAny_pure ?_) hp)))
    replace hs₅ : Heap.SameBut env.locals h₄ h₅ := hs₅
    have S₅ : St B env.locals h₅ (setV xc v1 (setV xi v0 m')) [] := S₄.set hn₅ hs₅
    have hLf : env.locals ∉ [n + 4, n + 2, n + 3, n, n + 1] := fun hm => by
      simp only [List.mem_cons, List.not_mem_nil, or_false] at hm
      rcases hm with e | e | e | e | e
      · exact ne_up 4 hLn e
      · exact ne_up 2 hLn e
      · exact ne_up 3 hLn e
      · exact ne_up 0 hLn e
      · exact ne_up 1 hLn e
    have hst₅ := W.frame _ _ _ hst₂ fun b hb o e => by
      have hbL : b ≠ env.locals := fun q => by
        rcases List.mem_cons.mp hb with rfl | hb
        · exact ne_up 4 hLn q.symm
        rcases List.mem_cons.mp hb with rfl | hb
        · exact ne_up 2 hLn q.symm
        rcases List.mem_cons.mp hb with rfl | hb
        · exact ne_up 3 hLn q.symm
        rcases List.mem_cons.mp hb with rfl | hb
        · exact ne_up 0 hLn q.symm
        rcases List.mem_cons.mp hb with rfl | hb
        · exact ne_up 1 hLn q.symm
        simp only [List.mem_cons, List.not_mem_nil, or_false] at hb
        have out := S'.out
        rcases hb with rfl | rfl
        · obtain ⟨_, e, _⟩ := hB1; rw [q, out] at e; cases e
        · obtain ⟨_, e, _⟩ := hB2; rw [q, out] at e; cases e
      exact hs₅.extBut b o hbL (hs₄.extBut b o hbL (up₃ b o e))
    have own : St B env.locals h₅ (setV xc v1 (setV xi v0 m')) (PyProof.Rows.ownOf B [n + 4, n + 2, n + 3, n, n + 1] h₅) := by
      refine ⟨S₅.ns, S₅.keep, S₅.out, news_ownOf hLf, ?_⟩
      have hnd : [n + 4, n + 2, n + 3, n, n + 1].Nodup := by simp
      refine List.Sublist.nodup ?_ hnd
      unfold PyProof.Rows.ownOf
      rw [List.map_filterMap]
      generalize [n + 4, n + 2, n + 3, n, n + 1] = fp
      induction fp with
      | nil => exact .slnil
      | cons a fp ih =>
        rw [List.filterMap_cons]
        split
        · exact ih.cons _
        · rename_i b hb
          have : b = a := by
            split at hb
            · cases q : h₅.get? a with
              | none => rw [q] at hb; cases hb
              | some o => rw [q] at hb; exact (Option.some.inj hb).symm
            · cases hb
          subst this
          exact ih.cons₂ _
    refine wpAny_mono (turn i v0 v1 h₅ m' _ _ (by simpa using hv0) (by simpa using hv1) hJ own) (fun f s₃ hf => ?_) fun _ _ x => x.elim
    have key : (∃ h' m'' tk', s₃ = ⟨h', g, d, tk', o⟩ ∧ St B env.locals h' m'' (PyProof.Rows.ownOf B [n + 4, n + 2, n + 3, n, n + 1] h₅) ∧ J (i + 1) m'') →
        ∃ k', k' < vs1.length + 1 - i ∧ ∃ H tk m' i', s₃ = ⟨H, g, d, tk, o⟩ ∧ (IsZip H (n + 4) (n + 2) (n + 3) .none ∧ IsPair H (n + 2) (.ref n) (.ref (n + 1)) ∧ (∃ a b, IsPair H (n + 3) a b) ∧ H.IsListIter n l1 i' ∧ H.IsListIter (n + 1) l2 i' ∧ H.IsList l1 vs1.toArray ∧ H.IsList l2 vs2.toArray) ∧ St B env.locals H m' [] ∧ J i' m' ∧ i' ≤ vs1.length ∧ k' = vs1.length + 1 - i' := by
      rintro ⟨h₆, m₆, tk₆, rfl, S₆, hJ₆⟩
      refine ⟨vs1.length + 1 - (i + 1), by omega, h₆, tk₆, m₆, i + 1, rfl, ?_, S₆.sub (List.nil_sublist _), hJ₆, hlt, rfl⟩
      refine W.frame _ _ _ hst₅ fun b hb o e => ?_
      cases q : B.get? b with
      | some o₀ =>
        have : o₀ = o := by have q := S₅.keep b o₀ q; rw [e] at q; exact (Option.some.inj q).symm
        exact this ▸ S₆.keep b o₀ q
      | none =>
        refine (S₆.nw _ (mem_ownOf (fp := [n + 4, n + 2, n + 3, n, n + 1]) ?_ q e)).1
        simp only [List.mem_cons, List.not_mem_nil, or_false] at hb ⊢
        rcases hb with hb | hb | hb | hb | hb | hb | hb
        · exact .inl hb
        · exact .inr (.inl hb)
        · exact .inr (.inr (.inl hb))
        · exact .inr (.inr (.inr (.inl hb)))
        · exact .inr (.inr (.inr (.inr hb)))
        · obtain ⟨_, e', _⟩ := hB1; rw [← hb, q] at e'; cases e'
        · obtain ⟨_, e', _⟩ := hB2; rw [← hb, q] at e'; cases e'
    cases f with
    | next => exact key hf
    | cont => exact key hf
    | brk => exact hf
    | ret v => exact hf
  · have hin : i = vs1.length := by omega
    subst hin
    refine W.done _ _ _ hst' fun h₁ tk₁ hk₁ => wpAny_execs_nil ?_
    exact done h₁ m' tk₁ hJ (next S' hk₁)
end
end Mine

namespace Mine
set_option maxRecDepth 100000
/-- the signs of a number's text -/
def dig (j : Nat) : List Nat := (Str.ofString (toString (j : Int))).cps.toList
theorem dig_text (j : Nat) : Str.ofString (toString (j : Int)) = sx (dig j) := sx_of rfl
theorem dig_short : ∀ j : Nat, j < 100 → (dig j).length ≤ 2 := by decide +kernel
def rowOf (ws : List Nat) (k : Nat) : List Nat := List.replicate (ws.getD k 0) 45 ++ 91 :: List.replicate (ws.length - ws.getD k 0) 45
def ent (ws : List Nat) (k j : Nat) : List Nat × List Nat := (91 :: dig j, (rowOf ws k).take (ws.getD j 0))
def bkTo (ws : List Nat) (k : Nat) : Nat → List (List Nat × List Nat)
  | 0 => []
  | j + 1 => bkTo ws k j ++ [ent ws k j]
def bk (ws : List Nat) : Nat → List (List Nat × List Nat)
  | 0 => []
  | k + 1 => bk ws k ++ bkTo ws k k
theorem bkTo_len (ws : List Nat) (k j : Nat) : (bkTo ws k j).length = j := by
  induction j with
  | zero => rfl
  | succ j ih => simp [bkTo, ih]
theorem bk_len (ws : List Nat) (k : Nat) : (bk ws k).length = tri k := by
  induction k with
  | zero => rfl
  | succ k ih => simp [bk, tri, ih, bkTo_len]
theorem tri_le (k : Nat) (h : k ≤ 100) : tri k ≤ 4950 := by
  have := tri_two k
  have : (k : Int) * ((k : Int) - 1) ≤ 9900 := by
    have h1 : (k : Int) ≤ 100 := by omega
    by_cases h0 : k = 0
    · subst h0; decide
    · have h2 : (0 : Int) ≤ (k : Int) - 1 := by omega
      calc (k : Int) * ((k : Int) - 1) ≤ 100 * ((k : Int) - 1) := Int.mul_le_mul_of_nonneg_right h1 h2
        _ ≤ 9900 := by omega
  omega
theorem tri_mono {a b : Nat} (h : a ≤ b) : tri a ≤ tri b := by
  induction h with
  | refl => exact Nat.le_refl _
  | step _ ih => exact Nat.le_trans ih (Nat.le_add_right _ _)
theorem mem_rowOf (ws : List Nat) (k c : Nat) : (91 ∈ (rowOf ws k).take c) ↔ ws.getD k 0 < c := by
  unfold rowOf
  rw [List.take_append]
  constructor
  · intro h
    rcases List.mem_append.mp h with h | h
    · have := List.mem_of_mem_take h
      simp at this
    · rcases Nat.lt_or_ge (ws.getD k 0) c with h' | h'
      · exact h'
      · rw [List.length_replicate, Nat.sub_eq_zero_of_le h'] at h; simp at h
  · intro h
    refine List.mem_append_right _ ?_
    rw [List.length_replicate]
    obtain ⟨e, he⟩ : ∃ e, c - ws.getD k 0 = e + 1 := ⟨c - ws.getD k 0 - 1, by omega⟩
    rw [he, List.take_succ_cons]
    exact List.mem_cons_self
abbrev wiped (p : List Nat × List Nat) : Bool := decide (91 ∈ p.2)
theorem wiped_ent (ws : List Nat) (k j : Nat) : wiped (ent ws k j) = decide (ws.getD k 0 < ws.getD j 0) := decide_eq_decide.mpr (mem_rowOf ws k _)
theorem bkTo_cnt (ws : List Nat) (k j : Nat) : (bkTo ws k j).countP wiped = cntTo ws k j := by
  induction j with
  | zero => rfl
  | succ j ih =>
    rw [bkTo, List.countP_append, ih, cntTo, List.countP_singleton, wiped_ent]
    by_cases hc : ws.getD k 0 < ws.getD j 0
    · rw [decide_eq_true hc, if_pos rfl, if_pos hc]
    · rw [decide_eq_false hc, if_neg (by decide), if_neg hc]
theorem bk_cnt (ws : List Nat) (k : Nat) : (bk ws k).countP wiped = invTo ws k := by
  induction k with
  | zero => rfl
  | succ k ih => rw [bk, List.countP_append, ih, bkTo_cnt, invTo]
theorem TupsAre.snoc {h : Heap} {vs : List Value} {ds : List (List Nat × List Nat)} {p : List Nat × List Nat} {t : Addr} {ta tb : Tok} (x : TupsAre h vs ds) (hT : IsTup h t [Value.str (sx p.1) ta, Value.str (sx p.2) tb].toArray) :
    TupsAre h (vs ++ [.ref t]) (ds ++ [p]) := by
  refine ⟨by simp [x.1], fun i p' hp => ?_⟩
  by_cases hi : i < ds.length
  · rw [List.getElem?_append_left hi] at hp
    rw [List.getElem?_append_left (by rw [x.1]; exact hi)]
    exact x.2 i p' hp
  · have hi' : i = ds.length := by
      have := (List.getElem?_eq_some_iff.mp hp).1
      simp at this; omega
    subst hi'
    rw [List.getElem?_append_right (Nat.le_refl _)] at hp
    simp at hp
    subst hp
    exact ⟨t, ta, tb, by rw [List.getElem?_append_right (by rw [x.1]; exact Nat.le_refl _), x.1]; simp, hT⟩
/-- no entry of the book is a pair of empty texts -/
theorem bkTo_some (ws : List Nat) (k j : Nat) : ∀ p ∈ bkTo ws k j, p.1 ≠ [] := by
  induction j with
  | zero => intro p hp; simp [bkTo] at hp
  | succ j ih =>
    intro p hp
    rcases List.mem_append.mp hp with hp | hp
    · exact ih p hp
    · rw [List.mem_singleton.mp hp]; exact List.cons_ne_nil _ _
theorem bk_some (ws : List Nat) (k : Nat) : ∀ p ∈ bk ws k, p.1 ≠ [] := by
  induction k with
  | zero => intro p hp; simp [bk] at hp
  | succ k ih =>
    intro p hp
    rcases List.mem_append.mp hp with hp | hp
    · exact ih p hp
    · exact bkTo_some ws k k p hp
end Mine

namespace Mine
set_option maxRecDepth 100000
section
variable {w : World} {prog : Program} {mg mb : Str → Option Value} {A : Around} {s : Shared} {R : Result → Shared → Prop}
theorem nsB_str : nsIn (KF w) mainGlobals (q "str") = some none := by kernel_rfl
theorem nsB_zip : nsIn (KF w) mainGlobals (q "zip") = some none := by kernel_rfl
theorem ns_post : nsIn (KF w) mainGlobals (q "_post_parse_validation") = some (some (.ref 21)) := by kernel_rfl
theorem kp_post : keepIn (KF w) (.ref 21) = true := by kernel_rfl
theorem getD_at {ws : List Nat} {i : Nat} (hi : i < ws.length) : ws[i] = ws.getD i 0 := by simp [List.getD, hi]
/-- all lists and tuples may be taken as the base -/
theorem St.live {B h : Heap} {L : Addr} {m : Str → Option Value} (S : St B L h m []) : ∃ B', St B' L h m [] ∧ (∀ b o, B.get? b = some o → B'.get? b = some o) ∧ (∀ b o vs n, h.get? b = some o → o.data = .seq vs n → B'.get? b = some o) := by
  obtain ⟨B', S', hB, hin, _⟩ := S.freeze
  refine ⟨B', S', hB, fun b o vs n e hd => hin b o e (fun q => ?_) fun hm => nomatch hm⟩
  subst q
  obtain ⟨oL, es, n', hoL, hdL, _⟩ := S.ns
  rw [e] at hoL; cases hoL
  rw [hd] at hdL; cases hdL
theorem OutAre.live {h h' : Heap} {vs rs : List Value} {ds : List (List Nat × List Nat)} (x : OutAre h vs ds rs) (hk : ∀ b o vs n, h.get? b = some o → o.data = .seq vs n → h'.get? b = some o) : OutAre h' vs ds rs := by
  refine ⟨x.1, fun i p hp => ?_⟩
  have := x.2 i p hp
  split
  · rename_i hb
    rw [if_pos hb] at this
    obtain ⟨t, ta, tb, a, o, ho, hc, n, hd⟩ := this
    exact ⟨t, ta, tb, a, o, hk _ _ _ _ ho hd, hc, n, hd⟩
  · rename_i hb
    rw [if_neg hb] at this
    exact this
theorem mail_call (G : Gd w mg mb s.heap) (hr : Rm 2 A) {l : Addr} {vs : List Value} {ws : List Nat} (hl : s.heap.IsList l vs.toArray) (hv : NatsAre vs ws) (hz : ws.length ≤ 100) (hlt : ∀ x ∈ ws, x < ws.length)
    (h : ∀ h' tk t, (∀ x o, s.heap.get? x = some o → h'.get? x = some o) → R (.ok (.ret (.int (inv ws : Nat) t))) { s with heap := h', toks := tk }) :
    codeAny (model prog w) A (.call (.ref 100) ⟨[.ref l], []⟩) R s := by
  refine call_def (f := 100) G hr.room rfl ?c ?b ?l (fun h₁ tk S => ?_) rfl rfl rfl ?x
  case c => kernel_rfl
  case b => rfl
  case l => rfl
  case x => rfl
  have hgl : ∀ i, i < ws.length → ws.getD i 0 < ws.length := fun i hi => by rw [← getD_at hi]; exact hlt _ (List.getElem_mem hi)
  refine wpAny_execs_cons (assignN (lstD (args_nil ⟨_, _, _, _, S, Nat.zero_le _, fun D h₂ S₂ _ => sto S₂ fun h₃ k₃ S₃ => ?_⟩)))
  have hl₃ : h₃.IsList l vs.toArray := hl.at (S₃.keep l)
  have hsz : (vs.toArray.size : Int) = ws.length := by rw [List.size_toArray, hv.1]
  have hsz' : vs.toArray.size < 1000000 := by rw [List.size_toArray, hv.1]; omega
  refine wpAny_execs_cons (for_rangeS ws.length (fun i B m news => (∀ b o, s.heap.get? b = some o → B.get? b = some o) ∧ ∃ rs n, [(D, ({ cls := .type "list", data := .seq rs.toArray n } : Obj))] = news ∧ m (q "book") = some (.ref D) ∧ m (q "word") = some (.ref l) ∧ TupsAre B rs (bk ws i)) hr.hh (by omega) ?start ?turn ?done)
  case start =>
    refine rngN (S₃.good G) (lenL (S₃.good G) (ldS S₃ (setV_ne (by decide) rfl) ⟨l, _, rfl, hl₃, hsz', fun t k => ⟨_, t, rfl, _, _, _, _, S₃, fun r t u v h' tk' S' => ?_⟩⟩))
    refine ⟨_, h', _, _, r, t, u, v, _, rfl, rfl, ?_, S'.sub (List.sublist_cons_self _ _), fun _ _ e => e, [], _, rfl, setV_eq, setV_ne (by decide) rfl, ⟨rfl, fun i p hp => by simp [bk] at hp⟩⟩
    have := S'.get (.head _)
    rw [hsz] at this
    exact this
  case turn =>
    rintro i B h₄ m _ k₄ it oi t hi ⟨hB, rs, n, rfl, hmb, hmw, hT⟩ S₄
    have GB : Gd w mg mb B := G.keeps hB
    have hl₄ : h₄.IsList l vs.toArray := hl.at fun o e => S₄.keep _ _ (hB _ _ e)
    obtain ⟨ti, hti⟩ := hv.at hi
    have hti' : vs[(i : Int).toNat]? = some (Value.int (ws.getD i 0 : Nat) ti) := by rw [Int.toNat_natCast]; exact hti
    have hwi := hgl i hi
    refine wpAny_execs_cons (assignN (wpAny_BinOp (wpAny_BinOp (wpAny_BinOp (cSx [45] (by decide +kernel) fun _ _ => Subscript_ (ldS S₄ (setV_ne (by decide) hmw) (ldS S₄ setV_eq (item_listL hl₄ (by omega) (by omega) hti' (mulSxZ (ws.getD i 0) rfl (by omega) fun _ _ => ?_)))))))))
    refine cSx [91] (by decide +kernel) fun _ _ => addSx (by rw [List.length_replicate]; omega) (by decide) fun t₁ k₁ => ?_
    refine wpAny_BinOp (cSx [45] (by decide +kernel) fun _ _ => wpAny_BinOp (lenL (S₄.good GB) (ldS S₄ (setV_ne (by decide) hmw) ⟨l, _, rfl, hl₄, hsz', fun t₂ k₂ => Subscript_ (ldS S₄ (setV_ne (by decide) hmw) (ldS S₄ setV_eq (item_listL hl₄ (by omega) (by omega) hti' (subI fun _ _ => mulSxZ (ws.length - ws.getD i 0) (by rw [hsz]; omega) (by omega) fun _ _ => ?_))))⟩)))
    refine addSx (by rw [List.length_append, List.length_replicate]; show ws.getD i 0 + 1 ≤ 10000; omega) (by rw [List.length_replicate]; omega) fun t₃ k₃ => sto S₄ fun h₅ k₅ S₅ => ?_
    have er : List.replicate (ws.getD i 0) 45 ++ [91] ++ List.replicate (ws.length - ws.getD i 0) 45 = rowOf ws i := by unfold rowOf; simp
    rw [er] at S₅
    refine wpAny_execs_cons (for_rangeS i (fun j B' m news => (∀ b o, s.heap.get? b = some o → B'.get? b = some o) ∧ ∃ rs n, [(it, oi), (D, ({ cls := .type "list", data := .seq rs.toArray n } : Obj))] = news ∧ m (q "book") = some (.ref D) ∧ m (q "word") = some (.ref l) ∧ m (q "row") = some (.str (sx (rowOf ws i)) t₃) ∧ TupsAre B' rs (bk ws i ++ bkTo ws i j)) hr.hh (by omega) ?start2 ?turn2 ?done2)
    case start2 =>
      refine rngN (S₅.good GB) (ldS S₅ (setV_ne (by decide) setV_eq) ⟨_, t, rfl, B, _, _, _, S₅, fun r t' u v h' tk' S' => ⟨B, h', _, _, r, t', u, v, _, rfl, rfl, S'.get (.head _), S'.sub (List.sublist_cons_self _ _), hB, rs, n, rfl, ?_, ?_, setV_eq, ?_⟩⟩)
      · exact setV_ne (by decide) (setV_ne (by decide) hmb)
      · exact setV_ne (by decide) (setV_ne (by decide) hmw)
      · rw [show bkTo ws i 0 = [] from rfl, List.append_nil]; exact hT
    case turn2 =>
      rintro j B₆ h₆ m₆ _ k₆ it₂ oi₂ tj hj ⟨hB₆, rs₆, n₆, rfl, hmb₆, hmw₆, hmr₆, hT₆⟩ S₆
      have GB₆ : Gd w mg mb B₆ := G.keeps hB₆
      have hj' : j < ws.length := Nat.lt_trans hj hi
      have hwj := hgl j hj'
      obtain ⟨tj', htj⟩ := hv.at hj'
      have htj' : vs[(j : Int).toNat]? = some (Value.int (ws.getD j 0 : Nat) tj') := by rw [Int.toNat_natCast]; exact htj
      have hrl : (rowOf ws i).length = ws.length + 1 := by
        unfold rowOf; rw [List.length_append, List.length_cons, List.length_replicate, List.length_replicate]; omega
      have hbl : rs₆.length < 10000 := by
        rw [hT₆.1, List.length_append, bk_len, bkTo_len]
        have h1 := tri_mono (Nat.le_of_lt hi)
        have h2 := tri_le _ hz
        omega
      have hd := dig_short j (by omega)
      refine wpAny_execs_cons (appS S₆ (setV_ne (by decide) hmb₆) (.tail _ (.tail _ (.head _))) (tupD (wpAny_items_cons (wpAny_BinOp (cSx [91] (by decide +kernel) fun _ _ => callTy (S₆.good GB₆) nsB_str boot_str (by decide) (arg1 (ldS S₆ setV_eq (P.str_of_int ?fit ?_))))))))
      case fit => exact Nat.lt_of_le_of_lt (Nat.log2_le_self _) (by simp; omega)
      rw [dig_text]
      refine addSx (by decide) (by omega) fun t₅ k₅ => wpAny_items_cons (Subscript_Slice (ldS S₆ (setV_ne (by decide) hmr₆) (wpAny_Slice (evalPart_none_step (evalPart_some_step (Subscript_ (ldS S₆ (setV_ne (by decide) hmw₆) (ldS S₆ setV_eq (item_listL (hl.at fun o e => S₆.keep _ _ (hB₆ _ _ e)) (by omega) (by omega) htj' (evalPart_none_step (slTo S₆ (by omega) (by omega) fun h₇ t₇ k₇ S₇ => ?_)))))))))))
      refine wpAny_items_nil ⟨_, _, _, _, S₇, two_fits, fun tp h₈ S₈ _ => ?_⟩
      obtain ⟨B₉, S₉, hB₉, hin, _⟩ := (S₈.sub (List.sublist_cons_self _ _)).freeze
      have hTB := hin _ _ (S₈.get (.head _)) ((S₈.nw _ (.head _)).2.1) (List.nodup_cons.mp S₈.nd).1
      refine ⟨B₉, h₈, _, _, _, 2, rs₆, n₆, rfl, S₉, rfl, hbl, fun h₁₀ S₁₀ => wpAny_execs_nil (Turn.nxt S₁₀ ⟨fun b o e => hB₉ _ _ (hB₆ _ _ e), _, _, rfl, setV_ne (by decide) hmb₆, setV_ne (by decide) hmw₆, setV_ne (by decide) hmr₆, ?_⟩)⟩
      rw [show bkTo ws i (j + 1) = bkTo ws i j ++ [ent ws i j] from rfl, ← List.append_assoc]
      exact (hT₆.keeps hB₉).snoc (p := ent ws i j) ⟨_, hTB, rfl, _, rfl⟩
    case done2 =>
      rintro B₆ h₆ m₆ _ k₆ ⟨hB₆, rs₆, n₆, rfl, hmb₆, hmw₆, hmr₆, hT₆⟩ S₆
      exact wpAny_execs_nil (Turn.nxt S₆ ⟨hB₆, rs₆, n₆, rfl, hmb₆, hmw₆, hT₆⟩)
  case done =>
    rintro B h₄ m _ k₄ ⟨hB, rs, n, rfl, hmb, hmw, hT⟩ S₄
    obtain ⟨B₂, S₅, hB₂, hin, _⟩ := (S₄.sub (List.nil_sublist _)).freeze
    have hD₂ : B₂.IsList D rs.toArray := ⟨_, hin _ _ (S₄.get (.head _)) (S₄.nw _ (.head _)).2.1 (fun hm => nomatch hm), rfl, n, rfl⟩
    have hT₂ := hT.keeps hB₂
    have hB₃ : ∀ b o, s.heap.get? b = some o → B₂.get? b = some o := fun b o e => hB₂ _ _ (hB _ _ e)
    have hbl : (bk ws ws.length).length < 10000 := by
      rw [bk_len]; have := tri_le _ hz; omega
    clear hin hB₂ hB hT S₄
    have GB : Gd w mg mb B₂ := G.keeps hB₃
    refine wpAny_execs_cons (assignN (callF (S₅.good GB) ns_post kp_post (arg1 (ldS S₅ hmb ⟨S₅.good GB, post_call (S₅.good GB) (hr.deeper _) (hD₂.at (S₅.keep D)) (hT₂.keeps S₅.keep) hbl fun h₆ k₆ r os hk₆ hr₆ hO₆ => ?_⟩))))
    obtain ⟨B₃, S₆, hB₆, hin₆⟩ := (S₅.keeps hk₆).live
    have hr₃ : B₃.IsList r os.toArray := by
      obtain ⟨o, ho, hc, n, hd⟩ := hr₆
      exact ⟨o, hin₆ _ _ _ _ ho hd, hc, n, hd⟩
    have hD₃ : B₃.IsList D rs.toArray := hD₂.at (hB₆ D)
    have hT₃ := hT₂.keeps hB₆
    have hO₃ := hO₆.live hin₆
    have G₃ := GB.keeps hB₆
    have hB₄ : ∀ b o, s.heap.get? b = some o → B₃.get? b = some o := fun b o e => hB₆ _ _ (hB₃ _ _ e)
    clear hin₆ hB₆ hB₃ hO₆ hr₆ hk₆ hD₂ hT₂ S₅ GB
    refine sto S₆ fun h₇ k₇ S₇ => ?_
    have eD : rs.toArray.size = (bk ws ws.length).length := by rw [List.size_toArray, hT₃.1]
    have eR : os.toArray.size = (bk ws ws.length).length := by rw [List.size_toArray, hO₃.1]
    refine wpAny_execs_cons (wpAny_If (wpAny_isTrue_Compare1 (lenL (S₇.good G₃) (ldS S₇ setV_eq ⟨r, _, rfl, hr₃.at (S₇.keep r), by omega, fun t₈ k₈ => lenL (S₇.good G₃) (ldS S₇ (setV_ne (by decide) hmb) ⟨D, _, rfl, hD₃.at (S₇.keep D), by omega, fun t₉ k₉ => neI (wpAny_truthy_bool ?_)⟩)⟩))))
    rw [eD, eR, show (((bk ws ws.length).length : Int) != ((bk ws ws.length).length : Int)) = false from by simp]
    refine wpAny_execs_nil (wpAny_execs_cons (assignN (cInt fun t₁ k₁ => sto S₇ fun h₈ k₈ S₈ => ?_)))
    refine wpAny_execs_cons (for_zipS (l1 := D) (l2 := r) (fun i m => ∃ t, m (q "wiped") = some (.int (((bk ws ws.length).take i).countP wiped : Nat) t)) hr.hh hD₃ hr₃ (by rw [hT₃.1, hO₃.1]) S₈ ⟨t₁, setV_eq⟩ ?startz ?turnz ?donez)
    case startz =>
      intro Q' hQ
      refine callTy (S₈.good G₃) nsB_zip boot_zip (by decide) (arg2 (ldS S₈ ?_ (ldS S₈ ?_ (hQ _ _))))
      · exact setV_ne (by decide) (setV_ne (by decide) hmb)
      · exact setV_ne (by decide) setV_eq
    case turnz =>
      rintro i v0 v1 h₉ m₉ k₉ own hv0 hv1 ⟨tw, hmw'⟩ S₉
      have hi : i < (bk ws ws.length).length := by rw [← hT₃.1]; exact (List.getElem?_eq_some_iff.mp hv0).1
      obtain ⟨p, hp⟩ : ∃ p, (bk ws ws.length)[i]? = some p := ⟨_, List.getElem?_eq_getElem hi⟩
      have hpn : p.1 ≠ [] := bk_some ws _ p (List.mem_of_getElem? hp)
      have hcnt : ((bk ws ws.length).take (i + 1)).countP wiped = ((bk ws ws.length).take i).countP wiped + if wiped p then 1 else 0 := by
        rw [List.take_add_one, hp, List.countP_append]
        show _ + List.countP wiped [p] = _
        rw [List.countP_singleton]
      obtain ⟨t0, ta, tb, e0, hT0⟩ := hT₃.2 i p hp
      obtain rfl : v0 = .ref t0 := by rw [e0] at hv0; exact (Option.some.inj hv0).symm
      have hO := hO₃.2 i p hp
      refine wpAny_execs_cons (wpAny_If (wpAny_isTrue_Compare1 (ldS S₉ setV_eq (tupD (wpAny_items_cons (cSx [] (by decide +kernel) fun u₁ _ => wpAny_items_cons (cSx [] (by decide +kernel) fun u₂ _ => wpAny_items_nil ⟨_, _, _, _, S₉, two_fits, fun tp h₅ S₅ hk₅ => ?_⟩)))))))
      have htp : h₅.IsTuple tp [Value.str (sx []) u₁, Value.str (sx []) u₂].toArray := ⟨_, S₅.get (.head _), rfl, _, rfl⟩
      have S₁₀ := S₅.sub (List.sublist_cons_self _ _)
      by_cases hw : 91 ∈ p.2
      · rw [if_pos hw] at hO
        obtain ⟨t', ta', tb', e', hT'⟩ := hO
        obtain rfl : v1 = .ref t' := by rw [e'] at hv1; exact (Option.some.inj hv1).symm
        refine eqP (isTup_keeps hT' S₅.keep) htp (hr.deeper _).units (wpAny_truthy_bool ?_)
        rw [show (([] : List Nat) == [] && ([] : List Nat) == []) = true from by decide]
        refine wpAny_execs_cons (wpAny_AugAssign_Name (ldnS S₁₀ (setV_ne (by decide) (setV_ne (by decide) hmw')) (cInt fun _ _ => iaddI fun t₂ _ => sto S₁₀ fun h₁₁ k₁₁ S₁₁ => wpAny_execs_nil (wpAny_execs_nil ⟨h₁₁, _, _, rfl, S₁₁, t₂, ?_⟩))))
        rw [setV_eq, hcnt, show wiped p = true from decide_eq_true hw]
        simp
      · rw [if_neg hw] at hO
        obtain rfl : v1 = .ref t0 := by rw [hO, e0] at hv1; exact (Option.some.inj hv1).symm
        have hT5 : h₅.IsTuple t0 [Value.str (sx p.1) ta, Value.str (sx p.2) tb].toArray := isTup_keeps hT0 S₅.keep
        refine eqP hT5 htp (hr.deeper _).units (wpAny_truthy_bool ?_)
        rw [show (p.1 == ([] : List Nat)) = false from by simpa using hpn, Bool.false_and]
        refine wpAny_execs_cons (wpAny_If (wpAny_isTrue_Compare1 (ldS S₁₀ setV_eq (ldS S₁₀ (setV_ne (by decide) setV_eq) (neP_same hT5 (hr.deeper _).units (wpAny_truthy_bool (wpAny_execs_nil (wpAny_execs_nil (wpAny_execs_nil ⟨h₅, _, _, rfl, S₁₀, tw, ?_⟩)))))))))
        rw [setV_ne (by decide) (setV_ne (by decide) hmw'), hcnt, show wiped p = false from decide_eq_false hw]
        simp
    case donez =>
      rintro h₉ m₉ k₉ ⟨tw, hmw'⟩ S₉
      refine wpAny_execs_cons (wpAny_Return_some (ldS S₉ hmw' ?_))
      rw [hT₃.1, List.take_length, bk_cnt]
      exact h _ _ _ fun b o e => S₉.keep _ _ (hB₄ _ _ e)
end
end Mine

namespace Mine
set_option maxRecDepth 100000
/-- an error of the text's own class 56 is on its way, with the frames of outer left to pass; all of G stands as it stood, but for the slots of those frames -/
def ErrP (G : Heap) (outer : List Env) (h' : Heap) (e : Addr) : Prop :=
  ∃ B a0, (∀ b o, G.get? b = some o → b ∉ outer.filterMap (·.frame) → B.get? b = some o) ∧ Heap.FlyingW B outer e (.ref 56) a0 h' ∧ G.UpToSlots h'

section
variable {w : World} {prog : Program} {mg mb : Str → Option Value} {A : Around} {s : Shared} {R : Result → Shared → Prop}

/-- a call of a plain def of the text that may raise -/
theorem call_defE {f : Addr} {oc : Value} {od : Option Addr} {osl : Array (Option Value)} {name : Str} {params : Arguments} {body : List Stmt} {scope : Scope} {pm cd doc : Value} {args : List Value}
    (G : Gd w mg mb s.heap) (hroom : A.depth < recursionLimit)
    (ho : (KF w).lookup f = some ⟨oc, od, .func (docDef name params body scope pm cd doc), osl⟩)
    (hcd : codeIn (KF w) cd name = true)
    (hbind : bindArgs (docDef name params body scope pm cd doc) ⟨args, []⟩ = pure ((params.args.map (·.arg)).zip args))
    (hloc : (((params.args.map (·.arg)).zip args).all fun x => decide (scope.names.lookup x.1 = some .local)) = true)
    (h : ∀ h₁ tk, St s.heap s.heap.objs.size h₁ (fun x => ((params.args.map (·.arg)).zip args).reverse.lookup x) [] →
      wpAny (model prog w) (A.deeper (envOf name scope s.heap.objs.size f cd)) (execs body (envOf name scope s.heap.objs.size f cd))
        (fun fl s' => R (.ok (.ret (match fl with | .ret v => v | _ => .none))) s')
        (fun e s' => wpAny (model prog w) (A.deeper (envOf name scope s.heap.objs.size f cd)) (leaving (envOf name scope s.heap.objs.size f cd) e) (fun _ s'' => R (.error e) s'') (fun e' s'' => R (.error e') s'') s')
        { s with heap := h₁, toks := tk })
    (hco : scope.isCoroutine = false) (hgen : scope.isGenerator = false) (hk : scope.kind = .function)
    (hcell : (scope.names.all fun x => x.2 != .cell) = true) :
    codeAny (model prog w) A (.call (.ref f) ⟨args, []⟩) R s :=
  call_plain hroom (G.X f _ ho) rfl G.T.nolimit (codeRec_of G.X hcd) hbind (locs hloc) (fun h₁ F => h h₁ _ (.of_fr F)) hco hgen hk
    (fun x hx => by have := List.all_eq_true.mp hcell x hx; simpa using this)

theorem ns_proto : nsIn (KF w) mainGlobals (q "error_proto") = some (some (.ref 56)) := by kernel_rfl
theorem exc_proto : excIn (KF w) 56 [.type "Exception", .type "BaseException", .type "object"] "Exception.__new__" = true := by kernel_rfl
theorem kts_proto : ktsIn (KF w) 56 "BaseException" = true := by kernel_rfl

/-- raise error_proto(x) in a def's frame -/
theorem raise_proto {hc h : Heap} {g : Array GenState} {d : Drawn} {tk : Nat} {o : OsState} {base : Heap} {outer : List Env} {name : Str} {scope : Scope} {L a : Addr} {cd v : Value} {m : Str → Option Value} {x : Str} {np p' cpos pos : Pos} {Q : Flow → Shared → Prop}
    (K : Below A base outer hc) (S : St hc L h m []) (hL : hc.objs.size ≤ L) (G : Gd w mg mb hc) (hh : A.handled = none) (hv : m x = some v)
    (hR : ∀ h' e, ErrP hc outer h' e → R (.error (.ref e)) ⟨h', g, d, tk, o⟩)
    (hl : (envOf name scope L a cd).kindOf x = some .local := by rfl) (hd : (x == ("__debug__" : Str)) = false := by decide)
    (he : starEach [.Name x p'] (envOf name scope L a cd) = [(false, eval (.Name x p') (envOf name scope L a cd))] := by rfl)
    (hk : scope.kind = .function := by rfl) (hx : (envOf name scope L a cd).kindOf (q "error_proto") = some .globalImplicit := by rfl) :
    wpAny (model prog w) (A.deeper (envOf name scope L a cd)) (exec (.Raise (some (.Call (.Name (q "error_proto") np) [.Name x p'] [] cpos)) none pos) (envOf name scope L a cd)) Q
      (fun e s' => wpAny (model prog w) (A.deeper (envOf name scope L a cd)) (leaving (envOf name scope L a cd) e) (fun _ s'' => R (.error e) s'') (fun e' s'' => R (.error e') s'') s') ⟨h, g, d, tk, o⟩ := by
  refine Raise_own (S.fr hL) G.T.g (own_of_in G.X G.T ns_proto exc_proto) PySem.F.excBase_Exception hh (arg1 (ldS S hv ⟨Nat.le_trans (by decide : 1 ≤ 2) two_fits, S.keep, fun h' e hx => ?_⟩ hk hl hd) he) he rfl hk hx (by decide)
  refine leave_raiseS K hx (S.fr hL) News.nil (fun h' t R' _ U => hR h' e ?_) hk
  obtain ⟨⟨B, _, hG, _, hfl, _⟩, _⟩ := R'
  exact ⟨B, _, hG, hfl, U⟩

/-- except error_proto: of an error that has come out of a call made at hc -/
theorem catch_proto {hc h' : Heap} {g : Array GenState} {d : Drawn} {tk : Nat} {o : OsState} {outer : List Env} {env : Env} {e : Addr} {B : Heap} {m : Str → Option Value} {news : List (Addr × Obj)} {b₀ : Stmt} {suite : List Stmt} {np pos : Pos} {rest : List ExceptHandler} {Q : Flow → Shared → Prop}
    (stack : A.frames = some (env :: outer)) (hf : env.frame = some env.locals) (S : St B env.locals hc m news) (hB : ∀ env' ∈ outer, ∀ b, env'.frame = some b → B.get? b = none) (G : Gd w mg mb B)
    (X : ErrP hc (env :: outer) h' e)
    (k : ∀ h₆, (∀ b o, hc.get? b = some o → b ∉ (env :: outer).filterMap (·.frame) → h₆.get? b = some o) → hc.UpToSlots h₆ →
      wpAny (model prog w) (A.mark (some (.ref e))) (execs (b₀ :: suite) env) Q NoE ⟨h₆, g, d, tk, o⟩)
    (hk : env.scope.kind = .function := by rfl) (hx : env.kindOf (q "error_proto") = some .globalImplicit := by rfl) (hg : env.globals = mainGlobals := by rfl) :
    wpAny (model prog w) A (noteFrame (.ref e) env)
      (fun _ s₂ => wpAny (model prog w) A (setFlight (.ref e) none) (fun _ s₃ =>
        wpAny (model prog w) A (handleBy (.ref e) env (.ExceptHandler (some (.Name (q "error_proto") np)) none (b₀ :: suite) pos :: rest)) Q NoE s₃) NoE s₂) NoE ⟨h', g, d, tk, o⟩ := by
  obtain ⟨C, a0, hC, hfl, hU⟩ := X
  have hBC : ∀ b o, B.get? b = some o → C.get? b = some o := fun b o eb => hC b o (S.keep b o eb) fun hm => by
    obtain ⟨env', he', hf'⟩ := List.mem_filterMap.mp hm
    rcases List.mem_cons.mp he' with rfl | he'
    · rw [hf] at hf'; rw [← Option.some.inj hf', S.out] at eb; cases eb
    · rw [hB env' he' b hf'] at eb; cases eb
  refine wpAny_looks_onW stack hf hfl fun h₄ hheld₄ hsm₄ => ?_
  refine wpAny_landsW hheld₄ fun h₅ hheld hsm₅' => ?_
  have hsm₅ := hsm₄.trans hsm₅'
  have G₅ : Gd w mg mb h₅ := G.keeps fun b o eb => hheld.1 _ _ (hBC b o eb)
  obtain ⟨ob, hob, hobc⟩ := hheld.there
  obtain ⟨nm, q', N, bs, bm, hdct, sn, sub, ab, col, dd, k0, k1, k2, k3, k5, newId, hC₅, hbase, hbT⟩ := kts_cls G₅.X kts_proto
  refine wpAny_handleBy_cons (codeAny_handlers_test (ldG G₅ ns_proto ?_ hk hx hg)) (by intro q; cases q)
  refine wpAny_excMatches_sub_self hC₅ hob hobc hbase (codeAny_handlers_suite ?_)
  refine lands_againW hheld fun h₆ hfl₆ hsm₆ => ?_
  exact wpAny_passesOwnAt PassesOwnAt.never (k h₆ (fun b o e1 e2 => hfl₆.1 _ _ (hC b o e1 e2)) (hU.trans (hsm₅.trans hsm₆)))
end
end Mine

namespace Mine
set_option maxRecDepth 100000
section
open Builtin Builtin.Str
theorem subAt_sx (l : List Nat) (c i : Nat) : StrLaws.At (sx l) (sx [c]) (sx l).length i ↔ l[i]? = some c := StrLaws.subAt_one (sx l) c i
/-- the first place of a sign from a place on -/
theorem find_from {a pre post l : List Nat} {c : Nat} (e : l = a ++ pre ++ c :: post) (hn : c ∉ pre) : ∃ r, occurrences (sx l) (sx [c]) a.length (sx l).length 1 = (a.length + pre.length) :: r := by
  have hat : l[a.length + pre.length]? = some c := by
    rw [e, List.getElem?_append_right (by simp)]; simp
  have hbefore : ∀ k, a.length ≤ k → k < a.length + pre.length → l[k]? ≠ some c := fun k h1 h2 q => by
    rw [e, List.append_assoc, List.getElem?_append_right h1, List.getElem?_append_left (by omega)] at q
    exact hn (List.mem_of_getElem? q)
  rcases StrLaws.occ_head_from (sx l) (sx [c]) a.length 1 (Nat.le_refl 1) with ⟨_, h⟩ | ⟨i, r, h0, h1, h2, h3⟩
  · exact absurd ((subAt_sx l c _).mpr hat) (h _ (Nat.le_add_right _ _))
  · have h2' := (subAt_sx l c i).mp h2
    have hi : i = a.length + pre.length := by
      rcases Nat.lt_trichotomy i (a.length + pre.length) with h | h | h
      · exact absurd h2' (hbefore i h1 h)
      · exact h
      · exact absurd ((subAt_sx l c _).mpr hat) (h3 _ (Nat.le_add_right _ _) h)
    exact ⟨r, by rw [h0, hi]⟩
theorem find_none {a rest l : List Nat} {c : Nat} (e : l = a ++ rest) (hn : c ∉ rest) : occurrences (sx l) (sx [c]) a.length (sx l).length 1 = [] := by
  rcases StrLaws.occ_head_from (sx l) (sx [c]) a.length 1 (Nat.le_refl 1) with ⟨h, _⟩ | ⟨i, r, h0, h1, h2, h3⟩
  · exact h
  · have h2' := (subAt_sx l c i).mp h2
    rw [e, List.getElem?_append_right h1] at h2'
    exact absurd (List.mem_of_getElem? h2') hn
theorem find_sx {pre post l : List Nat} {c : Nat} (e : l = pre ++ c :: post) (hn : c ∉ pre) : Txt.find (sx l) (sx [c]) = (pre.length : Nat) := by
  obtain ⟨r, h⟩ := find_from (a := []) (l := l) (by simpa using e) hn
  unfold Txt.find
  rw [show (0 : Nat) = ([] : List Nat).length from rfl, h]
  simp
theorem fromIndex_nat (n i : Nat) : fromIndex n (i : Int) = i := by
  unfold fromIndex
  rw [if_neg (by omega)]
  omega
theorem find3_sx {a pre post l : List Nat} {c i : Nat} (hi : i = a.length) (e : l = a ++ pre ++ c :: post) (hn : c ∉ pre) : Txt.find3 (sx l) (sx [c]) (i : Int) = ((i + pre.length : Nat) : Int) := by
  obtain ⟨r, h⟩ := find_from e hn
  unfold Txt.find3
  rw [fromIndex_nat, hi, h]
theorem find3_no {a rest l : List Nat} {c i : Nat} (hi : i = a.length) (e : l = a ++ rest) (hn : c ∉ rest) : Txt.find3 (sx l) (sx [c]) (i : Int) = -1 := by
  unfold Txt.find3
  rw [fromIndex_nat, hi, find_none e hn]
theorem item_sx {l : List Nat} {i c : Nat} (h : l[i]? = some c) : Txt.item (sx l) (i : Int) = sx [c] := by
  have hi : i < l.length := (List.getElem?_eq_some_iff.mp h).1
  unfold Txt.item Txt.charAt
  rw [seqIndex_of (by omega) (by rw [sx_len]; omega)]
  show (⟨#[((sx l).cps[(i : Int).toNat]?).getD 0]⟩ : Str) = _
  rw [Int.toNat_natCast]
  have : (sx l).cps[i]? = some c := by simpa [sx] using h
  rw [this]; rfl
theorem parts_fit (l : List Nat) (c : Nat) (hl : l.length ≤ 10000) : (partsBetween (sx l) (occurrences (sx l) (sx [c]) 0 (sx l).length ((sx l).length + 1)) (sx [c]).length).length ≤ sizeLine := by
  have h := StrLaws.occ_length_le (sx l) (sx [c]) 0 (sx l).length ((sx l).length + 1)
  have e : (partsBetween (sx l) (occurrences (sx l) (sx [c]) 0 (sx l).length ((sx l).length + 1)) (sx [c]).length).length = (occurrences (sx l) (sx [c]) 0 (sx l).length ((sx l).length + 1)).length + 1 := by
    unfold partsBetween
    simp
  have hlen : (sx l).length = l.length := sx_len l
  rw [e, sizeLine_eq]
  omega
theorem join_cons_sx (x : List Nat) (ts : List (List Nat)) : PySem.Str.join (sx []) (sx x :: ts.map sx) = sx (x ++ ts.flatten) := by
  induction ts generalizing x with
  | nil => simp [PySem.Str.join]
  | cons y ts ih =>
    show sx x ++ sx [] ++ PySem.Str.join (sx []) (sx y :: ts.map sx) = _
    rw [ih, sx_add, sx_add]
    simp
theorem join_sx (ts : List (List Nat)) : Txt.join (sx []) (ts.map sx) = sx ts.flatten := by
  unfold Txt.join
  rw [StrLaws.glued_eq_join]
  cases ts with
  | nil => rfl
  | cons x ts => rw [List.map_cons, join_cons_sx]; simp
theorem join_ok (ts : List (List Nat)) (h1 : ∀ t ∈ ts, t.length ≤ 100) (h2 : ts.length ≤ 1000) : JoinOk (sx []) (ts.map sx) = true := by
  have hB : ∀ y ∈ ts.map sx, y.length ≤ 100 := fun y hy => by
    obtain ⟨t, ht, rfl⟩ := List.mem_map.mp hy
    rw [sx_len]; exact h1 t ht
  unfold JoinOk
  rw [StrLaws.joinFits hB (by rw [List.length_map, sx_len, List.length_nil]; omega)]
  rfl
end
/-- a list's values are these texts -/
def SxAre (vs : List Value) (ts : List (List Nat)) : Prop := ∃ l : List (Str × Tok), vs = strValues l ∧ l.map (·.1) = ts.map sx
theorem SxAre.length {vs : List Value} {ts : List (List Nat)} (x : SxAre vs ts) : vs.length = ts.length := by
  obtain ⟨l, rfl, e⟩ := x
  have := congrArg List.length e
  simpa [strValues] using this
theorem SxAre.rep (n c : Nat) (t : Tok) : SxAre (List.replicate n (Value.str (sx [c]) t)) (List.replicate n [c]) :=
  ⟨List.replicate n (sx [c], t), by simp [strValues], by simp⟩
theorem SxAre.set {vs : List Value} {ts : List (List Nat)} (x : SxAre vs ts) (i : Nat) (y : List Nat) (t : Tok) : SxAre (vs.set i (.str (sx y) t)) (ts.set i y) := by
  obtain ⟨l, rfl, e⟩ := x
  refine ⟨l.set i (sx y, t), by simp [strValues, List.map_set], ?_⟩
  rw [List.map_set, e, List.map_set]
theorem SxAre.snoc {vs : List Value} {ts : List (List Nat)} (x : SxAre vs ts) (y : List Nat) (t : Tok) : SxAre (vs ++ [.str (sx y) t]) (ts ++ [y]) := by
  obtain ⟨l, rfl, e⟩ := x
  exact ⟨l ++ [(sx y, t)], by simp [strValues], by simp [e]⟩
theorem SxAre.at {vs : List Value} {ts : List (List Nat)} (x : SxAre vs ts) {i : Nat} {y : List Nat} (h : ts[i]? = some y) : ∃ t, vs[i]? = some (.str (sx y) t) := by
  obtain ⟨l, rfl, e⟩ := x
  have h1 : (l.map (·.1))[i]? = some (sx y) := by rw [e, List.getElem?_map, h]; rfl
  rw [List.getElem?_map] at h1
  obtain ⟨p, hp, hp'⟩ := Option.map_eq_some_iff.mp h1
  exact ⟨p.2, by simp [strValues, hp, ← hp']⟩

theorem set_rep {α : Type} (c x : α) (n a : Nat) (h : a < n) : (List.replicate n c).set a x = List.replicate a c ++ x :: List.replicate (n - a - 1) c := by
  obtain ⟨r, rfl⟩ : ∃ r, n = a + (r + 1) := ⟨n - a - 1, by omega⟩
  rw [← List.replicate_append_replicate, List.set_append_right _ _ (by simp)]
  simp [List.replicate_succ]
/-- the reply's signs -/
def tail3 (h : Nat) : List Nat := if h % 3 = 0 then [] else if h % 3 = 1 then [124, 41] else [124, 124, 57, 124, 46, 41]
def sgns (n a b h : Nat) : List (List Nat) := (((List.replicate n [46]).set a [40, 124]).set b ([124, 124] ++ dig h ++ [124, 41])) ++ [tail3 h]
theorem flat_rep (c : Nat) (n : Nat) : (List.replicate n [c]).flatten = List.replicate n c := by
  induction n with
  | zero => rfl
  | succ n ih => rw [List.replicate_succ, List.flatten_cons, ih]; rfl
theorem sgns_lt {n a b h : Nat} (hab : a < b) (hb : b < n) : (sgns n a b h).flatten =
    List.replicate a 46 ++ 40 :: (124 :: List.replicate (b - a - 1) 46 ++ [124, 124] ++ dig h ++ [124]) ++ 41 :: (List.replicate (n - b - 1) 46 ++ tail3 h) := by
  unfold sgns
  rw [set_rep _ _ _ _ (Nat.lt_trans hab hb), List.set_append_right _ _ (by simp; omega)]
  simp only [List.length_replicate]
  obtain ⟨r, hr⟩ : ∃ r, b - a = r + 1 := ⟨b - a - 1, by omega⟩
  rw [hr, List.set_cons_succ, set_rep _ _ _ _ (by omega)]
  simp only [List.flatten_append, List.flatten_cons, List.flatten_nil, flat_rep]
  rw [show n - a - 1 - r - 1 = n - b - 1 from by omega]
  simp
theorem sgns_gt {n a b h : Nat} (hab : b < a) (ha : a < n) : (sgns n a b h).flatten =
    (List.replicate b 46 ++ ([124, 124] ++ dig h ++ [124, 41]) ++ List.replicate (a - b - 1) 46) ++ 40 :: (124 :: List.replicate (n - a - 1) 46 ++ tail3 h) := by
  unfold sgns
  rw [List.set_comm _ _ (by omega), set_rep _ _ _ _ (Nat.lt_trans hab ha), List.set_append_right _ _ (by simp; omega)]
  simp only [List.length_replicate]
  obtain ⟨r, hr⟩ : ∃ r, a - b = r + 1 := ⟨a - b - 1, by omega⟩
  rw [hr, List.set_cons_succ, set_rep _ _ _ _ (by omega)]
  simp only [List.flatten_append, List.flatten_cons, List.flatten_nil, flat_rep]
  rw [show n - b - 1 - r - 1 = n - a - 1 from by omega]
  simp
theorem split5 : ∀ b : Nat, b < 11 → ∀ h : Nat, h < 11 → Txt.split (sx (124 :: List.replicate b 46 ++ [124, 124] ++ dig h ++ [124])) (sx [124]) = [sx [], sx (List.replicate b 46), sx [], sx (dig h), sx []] := by decide +kernel
theorem split3 : ∀ b : Nat, b < 11 → Txt.split (sx (124 :: List.replicate b 46 ++ [124])) (sx [124]) = [sx [], sx (List.replicate b 46), sx []] := by decide +kernel
theorem dig_clean : ∀ h : Nat, h < 11 → 40 ∉ dig h ∧ 41 ∉ dig h ∧ (dig h).length ≤ 2 := by decide +kernel
end Mine

namespace Mine
set_option maxRecDepth 100000
section
variable {w : World} {prog : Program} {mg mb : Str → Option Value} {A : Around} {E : Value → Shared → Prop} {h : Heap} {g : Array GenState} {d : Drawn} {tk : Nat} {o : OsState} {env : Env}
/-- x[i] of a text -/
theorem itSx {value slice : Expr} {l : List Nat} {i c : Nat} {z : Int} {t u : Tok} {Q : Value → Shared → Prop} (hz : z = (i : Nat)) (hc : l[i]? = some c) (hl : l.length ≤ 10000) (hQ : ∀ t' tk', Q (.str (sx [c]) t') ⟨h, g, d, tk', o⟩)
    (hs : subscripted slice false (.str (sx l) t) (.int z u) = operate [.str (sx l) t, .int z u] (getItem (.str (sx l) t) (.int z u)) := by with_unfolding_all rfl)
    (ht : ∀ r, letTemporaryGo value (.str (sx l) t) r = pure () := by intro _; with_unfolding_all rfl) :
    wpAny (model prog w) A (subscriptTail value slice (.str (sx l) t) (.int z u)) Q E ⟨h, g, d, tk, o⟩ := by
  subst hz
  have hi : i < l.length := (List.getElem?_eq_some_iff.mp hc).1
  refine item_str (fitsSsize_of (N := 9223372036854775808) (by omega) (by omega) (Int.le_refl _)) (by omega) (by rw [sx_len]; omega) (fun _ => ?_) hs ht
  rw [item_sx hc]
  exact hQ _ _
/-- x.split(y) -/
theorem splitSx {l : List Nat} {c : Nat} {t u : Tok} {ps : List (List Nat)} {Q : Value → Shared → Prop} {B : Heap} {L : Addr} {m : Str → Option Value} {news : List (Addr × Obj)}
    (S : St B L h m news) (hl : l.length ≤ 10000) (hp : Txt.split (sx l) (sx [c]) = ps.map sx)
    (hQ : ∀ D vs h' tk', (∀ b ob, h.get? b = some ob → h'.get? b = some ob) → St B L h' m news → h'.IsList D vs.toArray → SxAre vs ps → Q (.ref D) ⟨h', g, d, tk', o⟩) :
    wpAny (model prog w) A (call (.builtin "str.split") [.str (sx l) t, .str (sx [c]) u]) Q E ⟨h, g, d, tk, o⟩ := by
  refine SCH.split1 (s := ⟨h, g, d, tk, o⟩) (P := fun h' => ∀ b ob, h.get? b = some ob → h'.get? b = some ob) (fun h₁ ob hk b o e => Heap.get?_push_of_some _ (hk b o e)) (fun _ _ e => e) rfl (fun D l' h' k e hk hD => ?_) (by rw [sx_len, sizeLine_eq]; omega) (parts_fit l c hl)
  exact hQ D _ h' k hk (S.keeps hk) hD ⟨l', rfl, e.trans hp⟩
theorem lt_cLine_one {A : Around} {k : Nat} (r : Rm k A) : A.units < cLine := r.units

theorem nsB_int : nsIn (KF w) mainGlobals (q "int") = some none := by kernel_rfl
theorem fst3 : ([50, 50, 57] : List Nat) ≠ [] := by decide

set_option maxHeartbeats 4000000 in
/-- the contract of parse229 on a reply of number 229 with an opening bracket behind u -/
theorem parse_call {s : Shared} {R : Result → Shared → Prop} {base : Heap} {outer : List Env} (G : Gd w mg mb s.heap) (hr : Rm 1 A) (K : Below A base outer s.heap) {u x : List Nat} {t : Tok} {tp : Addr} {a : List Nat} {ta : Tok} {v2 : Value}
    (hu : 40 ∉ u) (hl : u.length + x.length ≤ 1000) (hT : IsTup s.heap tp [Value.str (sx a) ta, v2].toArray)
    (out : (41 ∉ x ∧ ∀ h' tk e, ErrP s.heap outer h' e → R (.error (.ref e)) { s with heap := h', toks := tk }) ∨
      ∃ y z c e₁, x = y ++ 41 :: z ∧ 41 ∉ y ∧ y[0]? = some c ∧ y[y.length - 1]? = some e₁ ∧
        ((c ≠ e₁ ∧ ∀ h' tk e, ErrP s.heap outer h' e → R (.error (.ref e)) { s with heap := h', toks := tk }) ∨
         (c = e₁ ∧ ∃ ps : List (List Nat), Txt.split (sx y) (sx [c]) = ps.map sx ∧
          ((ps.length ≠ 5 ∧ ps.length < 1000 ∧ ∀ h' tk e, ErrP s.heap outer h' e → R (.error (.ref e)) { s with heap := h', toks := tk }) ∨
           (ps.length = 5 ∧ ∃ n : Nat, n < 1000 ∧ ps[3]? = some (dig n) ∧ ∀ h' tk r t', (∀ b o, s.heap.get? b = some o → h'.get? b = some o) → s.heap.get? r = none → h'.IsTuple r [Value.str (sx a) ta, .int (n : Nat) t'].toArray → R (.ok (.ret (.ref r))) { s with heap := h', toks := tk }))))) :
    codeAny (model prog w) A (.call (.ref 65) ⟨[.str (sx ([50, 50, 57] ++ u ++ 40 :: x)) t, .ref tp], []⟩) R s := by
  refine call_defE (f := 65) G hr.room rfl ?c ?b ?l (fun h₁ tk S => ?_) rfl rfl rfl ?x
  case c => kernel_rfl
  case b => rfl
  case l => rfl
  case x => rfl
  obtain ⟨l, hle⟩ : ∃ l, l = [50, 50, 57] ++ u ++ 40 :: x := ⟨_, rfl⟩
  rw [← hle] at S
  have hll : l.length ≤ 10000 := by rw [hle]; simp; omega
  have h3l : 3 ≤ l.length := by rw [hle]; simp
  have ht3 : l.take 3 = [50, 50, 57] := by rw [hle, List.append_assoc]; rfl
  obtain ⟨hg, g, d, k, o⟩ := s
  refine wpAny_execs_cons (wpAny_If (wpAny_isTrue_Compare1 (Subscript_Slice (ldS S rfl (wpAny_Slice (evalPart_none_step (evalPart_some_step (cInt fun t₁ k₁ => evalPart_none_step (slTo (j := 3) S h3l hll fun h₂ t₂ k₂ S₂ => ?_)))))))))
  rw [ht3]
  refine cSx [50, 50, 57] (by decide +kernel) fun t₃ k₃ => neSx (wpAny_truthy_bool ?_)
  rw [show (([50, 50, 57] : List Nat) != [50, 50, 57]) = false from by decide]
  refine wpAny_execs_nil ?_
  have hfind : Txt.find (sx l) (sx [40]) = ((3 + u.length : Nat) : Int) := by
    rw [find_sx (pre := [50, 50, 57] ++ u) hle (by simp [hu])]; simp; omega
  refine wpAny_execs_cons (assignN (MethodCall_ (ldS S₂ rfl (GM.find (PyProof.Rows.callWith_method1 (arg1 (cSx [40] (by decide +kernel) fun t₄ k₄ => SC.find ?_)) rfl rfl)))))
  rw [hfind]
  refine sto S₂ fun h₅ k₅ S₅ => ?_
  refine wpAny_execs_cons (wpAny_If (wpAny_isTrue_Compare1 (ldS S₅ setV_eq (cInt fun _ _ => ltI (wpAny_truthy_bool ?_)))))
  rw [decide_eq_false (by omega)]
  refine wpAny_execs_nil ?_
  refine wpAny_execs_cons (assignN (MethodCall_ (ldS S₅ (setV_ne (by decide) rfl) (GM.find (PyProof.Rows.callWith_method1 (arg2 (cSx [41] (by decide +kernel) fun t₄ k₄ => wpAny_BinOp (ldS S₅ setV_eq (cInt fun _ _ => addI fun t₆ k₆ => SC.find3 ?_)))) rfl rfl)))))
  have e4 : (((3 + u.length : Nat) : Int) + 1) = ((4 + u.length : Nat) : Int) := by omega
  rw [e4]
  rcases out with ⟨hx, bad⟩ | ⟨y, z, c, e₁, rfl, hy, hc, he, out⟩
  · have hf : Txt.find3 (sx l) (sx [41]) ((4 + u.length : Nat) : Int) = -1 :=
      find3_no (a := [50, 50, 57] ++ u ++ [40]) (rest := x) (by simp; omega) (by rw [hle]; simp) hx
    rw [hf]
    refine sto S₅ fun h₆ k₆ S₆ => ?_
    refine wpAny_execs_cons (wpAny_If (wpAny_isTrue_Compare1 (ldS S₆ setV_eq (cInt fun _ _ => ltI (wpAny_truthy_bool ?_)))))
    rw [decide_eq_true (by omega)]
    exact wpAny_execs_cons (raise_proto K S₆ (Nat.le_refl _) G hr.hh (setV_ne (by decide) (setV_ne (by decide) rfl)) fun h' e X => bad _ _ _ X)
  · have hyl : 0 < y.length := (List.getElem?_eq_some_iff.mp hc).1
    have hf : Txt.find3 (sx l) (sx [41]) ((4 + u.length : Nat) : Int) = ((4 + u.length + y.length : Nat) : Int) :=
      find3_sx (a := [50, 50, 57] ++ u ++ [40]) (pre := y) (post := z) (by simp; omega) (by rw [hle]; simp) hy
    have hl2 : l = ([50, 50, 57] ++ u ++ [40]) ++ (y ++ 41 :: z) := by rw [hle]; simp
    have hpre : ([50, 50, 57] ++ u ++ [40]).length = 4 + u.length := by simp; omega
    have hc' : l[4 + u.length]? = some c := by
      rw [hl2, List.getElem?_append_right (by omega), hpre, Nat.sub_self, List.getElem?_append_left hyl, hc]
    have he' : l[4 + u.length + y.length - 1]? = some e₁ := by
      rw [hl2, List.getElem?_append_right (by omega), hpre, show 4 + u.length + y.length - 1 - (4 + u.length) = y.length - 1 from by omega, List.getElem?_append_left (by omega), he]
    have hsl : (l.drop (4 + u.length)).take (4 + u.length + y.length - (4 + u.length)) = y := by
      rw [hl2, List.drop_append_of_le_length (by omega), ← hpre, List.drop_length, List.nil_append, Nat.add_sub_cancel_left, List.take_left]
    have hyl2 : 4 + u.length + y.length ≤ l.length := by rw [hl2]; simp; omega
    rw [hf]
    refine sto S₅ fun h₆ k₆ S₆ => ?_
    refine wpAny_execs_cons (wpAny_If (wpAny_isTrue_Compare1 (ldS S₆ setV_eq (cInt fun _ _ => ltI (wpAny_truthy_bool ?_)))))
    rw [decide_eq_false (by omega)]
    refine wpAny_execs_nil ?_
    refine wpAny_execs_cons (wpAny_If (wpAny_isTrue_Compare1 (Subscript_ (ldS S₆ (setV_ne (by decide) (setV_ne (by decide) rfl)) (wpAny_BinOp (ldS S₆ (setV_ne (by decide) setV_eq) (cInt fun _ _ => addI fun _ _ => itSx e4 hc' hll fun _ _ => ?_)))))))
    refine Subscript_ (ldS S₆ (setV_ne (by decide) (setV_ne (by decide) rfl)) (wpAny_BinOp (ldS S₆ setV_eq (cInt fun _ _ => subI fun _ _ => itSx (i := 4 + u.length + y.length - 1) (by omega) he' hll fun _ _ => neSx (wpAny_truthy_bool ?_)))))
    rcases out with ⟨hne, bad⟩ | ⟨rfl, ps, hps, out⟩
    · rw [show (([c] : List Nat) != [e₁]) = true from by simpa using hne]
      exact wpAny_execs_cons (raise_proto K S₆ (Nat.le_refl _) G hr.hh (setV_ne (by decide) (setV_ne (by decide) rfl)) fun h' e X => bad _ _ _ X)
    · rw [show (([c] : List Nat) != [c]) = false from by simp]
      refine wpAny_execs_nil ?_
      refine wpAny_execs_cons (assignN (MethodCall_ (Subscript_Slice (ldS S₆ (setV_ne (by decide) (setV_ne (by decide) rfl)) (wpAny_Slice (evalPart_some_step (wpAny_BinOp (ldS S₆ (setV_ne (by decide) setV_eq) (cInt fun _ _ => addI fun _ _ => evalPart_some_step (ldS S₆ setV_eq (evalPart_none_step ?_)))))))))))
      rw [e4]
      refine slFT S₆ (by omega) hyl2 hll fun h₇ _ _ S₇ => ?_
      rw [hsl]
      refine GM.split (PyProof.Rows.callWith_method1 (arg1 (Subscript_ (ldS S₇ (setV_ne (by decide) (setV_ne (by decide) rfl)) (wpAny_BinOp (ldS S₇ (setV_ne (by decide) setV_eq) (cInt fun _ _ => addI fun _ _ => itSx e4 hc' hll fun _ _ => splitSx S₇ (by omega) hps fun D vs h₈ k₈ _ S₈ hD hvs => ?_)))))) rfl rfl)
      obtain ⟨B, S₉, hB, hin⟩ := S₈.live
      have hDB : B.IsList D vs.toArray := by
        obtain ⟨o, ho, hc, n, hd⟩ := hD
        exact ⟨o, hin _ _ _ _ ho hd, hc, n, hd⟩
      clear hin hD
      refine sto S₉ fun h₁₀ k₁₀ S₁₀ => ?_
      have GB : Gd w mg mb B := G.keeps hB
      have hvl : vs.toArray.size = ps.length := by rw [List.size_toArray, hvs.length]
      have hpl : ps.length < 1000000 := by rcases out with ⟨_, h, _⟩ | ⟨h, _⟩ <;> omega
      refine wpAny_execs_cons (wpAny_If (wpAny_isTrue_Compare1 (lenL (S₁₀.good GB) (ldS S₁₀ setV_eq ⟨D, _, rfl, hDB.at (S₁₀.keep D), by omega, fun _ _ => cInt fun _ _ => neI (wpAny_truthy_bool ?_)⟩))))
      rw [hvl]
      rcases out with ⟨hp5, _, bad⟩ | ⟨hp5, n, hn, hpn, good⟩
      · rw [show ((ps.length : Int) != 5) = true from by simp; omega]
        exact wpAny_execs_cons (raise_proto K (S₁₀.mono hB) (Nat.le_refl _) G hr.hh (setV_ne (by decide) (setV_ne (by decide) (setV_ne (by decide) rfl))) fun h' e X => bad _ _ _ X)
      · rw [show ((ps.length : Int) != 5) = false from by simp; omega]
        refine wpAny_execs_nil ?_
        refine wpAny_execs_cons (assignN (Subscript_ (ldS S₁₀ (setV_ne (by decide) (setV_ne (by decide) (setV_ne (by decide) rfl))) (cInt fun _ _ => item_tupleL (isTup_keeps hT fun b ob e => S₁₀.keep _ _ (hB _ _ e)) (by omega) (by omega) rfl rfl (sto S₁₀ fun h₁₁ k₁₁ S₁₁ => ?_)))))
        obtain ⟨tn, htn⟩ := hvs.at hpn
        refine wpAny_execs_cons (assignN (callTy (S₁₁.good GB) nsB_int boot_int (by decide) (arg1 (Subscript_ (ldS S₁₁ (setV_ne (by decide) setV_eq) (cInt fun _ _ => item_listL (hDB.at (S₁₁.keep D)) (by omega) (by omega) htn ?_))))))
        rw [← dig_text]
        refine KIN.call_num (n := (n : Nat)) (by omega) (by omega) (sto S₁₁ fun h₁₂ k₁₂ S₁₂ => ?_)
        refine wpAny_execs_cons (wpAny_Return_some (tupD (wpAny_items_cons (ldS S₁₂ (setV_ne (by decide) setV_eq) (wpAny_items_cons (ldS S₁₂ setV_eq (wpAny_items_nil ⟨_, _, _, _, S₁₂, two_fits, fun r h₁₃ S₁₃ _ => ?_⟩)))))))
        exact good _ _ _ _ (fun b ob e => S₁₃.keep _ _ (hB _ _ e)) (none_of hB (S₁₃.nw _ (.head _)).2.2) ⟨_, S₁₃.get (.head _), rfl, _, rfl⟩
end
end Mine

namespace Mine
set_option maxRecDepth 100000
section
variable {w : World} {prog : Program} {mg mb : Str → Option Value} {A : Around} {E : Value → Shared → Prop} {h : Heap} {g : Array GenState} {d : Drawn} {tk : Nat} {o : OsState} {env : Env}
variable {B : Heap} {L : Addr} {m : Str → Option Value} {news : List (Addr × Obj)}
theorem mulLg {l : Addr} {items : Array Value} {k : Nat} {x : Int} {u : Tok} {Q : Value → Shared → Prop} (hl : h.get? l = some { cls := .type "list", dict := none, data := .seq items k, slots := #[] })
    (hlo : -(2 ^ 63 : Int) ≤ x) (hhi : x < 2 ^ 63) (hsz : items.size * x.toNat ≤ 2 ^ 24)
    (hQ : Q (.ref h.objs.size) ⟨h.push { cls := .type "list", data := .seq (List.foldl (fun x1 x2 => x1 ++ x2) #[] (List.replicate (if items.isEmpty = true then 0 else x.toNat) items)) }, g, d, tk, o⟩) :
    wpAny (model prog w) A (binaryOp .Mult (.ref l) (.int x u)) Q E ⟨h, g, d, tk, o⟩ :=
  wpAny_binaryOp_repeat_ref (T := "list") (U := "int") (by decide) ⟨_, hl, rfl⟩ (fun s' => typeIs_int s' x u) noFill_list_mul F.fills_int_mul F.slot_int_rmul repeat_list F.slot_int_index.lookup
    (call_meets F.slot_int_rmul (typeIs_int _ x u) F.entry_int_rmul (F.args_int_rmul_2 _ _) (int___rmul___int_list x u l items k)
      ⟨hl, rfl, ⟨_, hl, rfl⟩, call_meets F.slot_list_mul ⟨_, hl, rfl⟩ F.entry_list_mul (F.args_list_mul_2 _ _)
        (AutoListH.list___mul___list_int_3 l items k x u (by simp [Builtin.List.listFitsIndex]; omega) (by omega) (by simp [Builtin.List.listTooLong, sizeLine]; omega))
        ⟨hl, hQ⟩⟩)
/-- [v] * n -/
theorem mulL {l : Addr} {v : Value} {n : Nat} {u : Tok} {Q : Value → Shared → Prop} (S : St B L h m news) (hl : h.get? l = some { cls := .type "list", data := .seq [v].toArray }) (hn : n < 10000)
    (hQ : ∀ D h', St B L h' m ((D, { cls := .type "list", data := .seq (List.replicate n v).toArray }) :: news) → Q (.ref D) ⟨h', g, d, tk, o⟩) :
    wpAny (model prog w) A (binaryOp .Mult (.ref l) (.int n u)) Q E ⟨h, g, d, tk, o⟩ := by
  have e : (List.foldl (fun x1 x2 => x1 ++ x2) #[] (List.replicate (if [v].toArray.isEmpty = true then 0 else (n : Int).toNat) [v].toArray)) = (List.replicate n v).toArray := by
    rw [listMul_foldl_if, Int.toNat_natCast]
    congr 1
    clear hn hQ
    induction n with
    | zero => rfl
    | succ n ih => rw [List.replicate_succ, List.flatten_cons, List.replicate_succ, ih]; rfl
  refine mulLg hl (by omega) (by omega) ?_ ?_
  · rw [Int.toNat_natCast]
    show 1 * n ≤ _
    have : (2 : Nat) ^ 24 = 16777216 := by decide
    omega
  · rw [e]
    exact hQ _ _ (S.push _)
/-- x[i] = v of a list in hand -/
theorem setL {D : Addr} {rs : List Value} {n i a : Nat} {t : Tok} {v : Value} {Q : Unit → Shared → Prop} (S : St B L h m news) (hi : news[i]? = some (D, ({ cls := .type "list", data := .seq rs.toArray n } : Obj))) (ha : a < rs.length) (hz : rs.length < 10000)
    (hQ : ∀ h', St B L h' m (news.set i (D, { cls := .type "list", data := .seq (rs.set a v).toArray n })) → Q () ⟨h', g, d, tk, o⟩) :
    wpAny (model prog w) A (setItem (.ref D) (.int a t) v) Q E ⟨h, g, d, tk, o⟩ := by
  have hD : PySem.IsL h D rs.toArray n := S.get (List.mem_of_getElem? hi)
  refine ki_setAt (s := ⟨h, g, d, tk, o⟩) hD (by omega) (by omega) (by rw [List.size_toArray]; omega) (hQ _ (S.upd i hi (Heap.SameBut.update ..) ?_))
  have q := hD.update (·.setIfInBounds a v)
  rw [Int.toNat_natCast]
  have e : (rs.toArray.setIfInBounds a v) = (rs.set a v).toArray := by simp
  rw [e] at q
  simpa using q
/-- two pairs of a text and a number that are the same -/
theorem neQ_same {s : Shared} {x y : Addr} {a : List Nat} {k : Int} {t₁ t₂ t₃ t₄ : Tok} {Q : Value → Shared → Prop} (hx : s.heap.IsTuple x [Value.str (sx a) t₁, Value.int k t₂].toArray) (hy : s.heap.IsTuple y [Value.str (sx a) t₃, Value.int k t₄].toArray) (hu : A.units < cLine)
    (hQ : Q (.bool false) s) : wpAny (model prog w) A (compareOp .NotEq (.ref x) (.ref y)) Q E s := by
  refine SeqAt.RcNeAt.tuples (e := fun j => if j = 0 then sx a == sx a else k == k) hx hy hu (fun j h1 h2 => ?_) prog w E Q ?_
  · match j, h1, h2 with
    | 0, _, _ => exact SeqAt.EqAt.str_str _ _ _ _
    | 1, _, _ => exact SeqAt.EqAt.int_int _ _ _ _
  · show Q (.bool (!(((sx a == sx a) && ((k == k) && true)) && true))) s
    simpa using hQ
end
end Mine

namespace Mine
set_option maxRecDepth 100000
section
variable {w : World} {prog : Program} {mg mb : Str → Option Value} {A : Around} {s : Shared} {R : Result → Shared → Prop}
theorem ns_parse : nsIn (KF w) mainGlobals (q "parse229") = some (some (.ref 65)) := by kernel_rfl
theorem kp_parse : keepIn (KF w) (.ref 65) = true := by kernel_rfl
/-- what parse229 refuses behind the opening bracket -/
def Refuses (x : List Nat) : Prop :=
  41 ∉ x ∨ ∃ y z c e₁, x = y ++ 41 :: z ∧ 41 ∉ y ∧ y[0]? = some c ∧ y[y.length - 1]? = some e₁ ∧
    (c ≠ e₁ ∨ (c = e₁ ∧ ∃ ps : List (List Nat), Txt.split (sx y) (sx [c]) = ps.map sx ∧ ps.length ≠ 5 ∧ ps.length < 1000))
theorem refuses_gt (r h : Nat) (hr : r < 11) : Refuses (124 :: List.replicate r 46 ++ tail3 h) := by
  unfold tail3
  split
  · refine .inl ?_
    simp
  · split
    · refine .inr ⟨124 :: List.replicate r 46 ++ [124], [], 124, 124, by simp, by simp, rfl, ?_, .inr ⟨rfl, [[], List.replicate r 46, []], split3 r hr, by simp, by simp⟩⟩
      rw [List.length_append, List.length_singleton, Nat.add_sub_cancel, List.getElem?_append_right (Nat.le_refl _), Nat.sub_self]; rfl
    · refine .inr ⟨124 :: List.replicate r 46 ++ [124, 124, 57, 124, 46], [], 124, 46, by simp, by simp, rfl, ?_, .inl (by decide)⟩
      rw [List.length_append, show ([124, 124, 57, 124, 46] : List Nat).length = 5 from rfl, show ∀ k, k + 5 - 1 = k + 4 from fun k => rfl, List.getElem?_append_right (Nat.le_add_right _ _), Nat.add_sub_cancel_left]; rfl
theorem parse_bad {base : Heap} {outer : List Env} (G : Gd w mg mb s.heap) (hr : Rm 1 A) (K : Below A base outer s.heap) {u x : List Nat} {t : Tok} {tp : Addr} {a : List Nat} {ta : Tok} {v2 : Value}
    (hu : 40 ∉ u) (hl : u.length + x.length ≤ 1000) (hT : IsTup s.heap tp [Value.str (sx a) ta, v2].toArray) (hx : Refuses x)
    (bad : ∀ h' tk e, ErrP s.heap outer h' e → R (.error (.ref e)) { s with heap := h', toks := tk }) :
    codeAny (model prog w) A (.call (.ref 65) ⟨[.str (sx ([50, 50, 57] ++ u ++ 40 :: x)) t, .ref tp], []⟩) R s := by
  refine parse_call G hr K hu hl hT ?_
  rcases hx with h | ⟨y, z, c, e₁, h1, h2, h3, h4, h⟩
  · exact .inl ⟨h, bad⟩
  · refine .inr ⟨y, z, c, e₁, h1, h2, h3, h4, ?_⟩
    rcases h with h | ⟨h, ps, h5, h6, h7⟩
    · exact .inl ⟨h, bad⟩
    · exact .inr ⟨h, ps, h5, .inl ⟨h6, h7, bad⟩⟩
theorem parse_good {base : Heap} {outer : List Env} (G : Gd w mg mb s.heap) (hr : Rm 1 A) (K : Below A base outer s.heap) {u z : List Nat} {b n : Nat} {t : Tok} {tp : Addr} {a : List Nat} {ta : Tok} {v2 : Value}
    (hu : 40 ∉ u) (hl : u.length + z.length ≤ 900) (hb : b < 11) (hn : n < 11) (hT : IsTup s.heap tp [Value.str (sx a) ta, v2].toArray)
    (good : ∀ h' tk r t', (∀ b o, s.heap.get? b = some o → h'.get? b = some o) → s.heap.get? r = none → h'.IsTuple r [Value.str (sx a) ta, .int (n : Nat) t'].toArray → R (.ok (.ret (.ref r))) { s with heap := h', toks := tk }) :
    codeAny (model prog w) A (.call (.ref 65) ⟨[.str (sx ([50, 50, 57] ++ u ++ 40 :: ((124 :: List.replicate b 46 ++ [124, 124] ++ dig n ++ [124]) ++ 41 :: z))) t, .ref tp], []⟩) R s := by
  have hd := dig_clean n hn
  have hlen : (124 :: List.replicate b 46 ++ [124, 124] ++ dig n ++ [124]).length ≤ 20 := by simp; omega
  refine parse_call G hr K hu (by rw [List.length_append, List.length_cons]; omega) hT (.inr ⟨_, z, 124, 124, rfl, by simp [hd.2.1], rfl, ?_, .inr ⟨rfl, [[], List.replicate b 46, [], dig n, []], split5 b hb n hn, .inr ⟨rfl, n, by omega, rfl, good⟩⟩⟩)
  rw [List.length_append, List.length_singleton, Nat.add_sub_cancel, List.getElem?_append_right (Nat.le_refl _), Nat.sub_self]; rfl
abbrev slotted (o : Obj) (sl : Array (Option Value)) : Obj := { o with slots := sl }
theorem tail_mem (j : Nat) (t0 t1 t2 : Tok) : ∃ t, [Value.str (sx []) t0, Value.str (sx [124, 41]) t1, Value.str (sx [124, 124, 57, 124, 46, 41]) t2][((j % 3 : Nat) : Int).toNat]? = some (Value.str (sx (tail3 j)) t) := by
  rw [Int.toNat_natCast]
  have h3 : j % 3 < 3 := Nat.mod_lt _ (by decide)
  unfold tail3
  rcases Nat.lt_or_ge (j % 3) 1 with h | h
  · rw [if_pos (by omega), show j % 3 = 0 from by omega]; exact ⟨_, rfl⟩
  · rcases Nat.lt_or_ge (j % 3) 2 with h' | h'
    · rw [if_neg (by omega), if_pos (by omega), show j % 3 = 1 from by omega]; exact ⟨_, rfl⟩
    · rw [if_neg (by omega), if_neg (by omega), show j % 3 = 2 from by omega]; exact ⟨_, rfl⟩
theorem tail_short (j : Nat) : (tail3 j).length ≤ 6 := by
  unfold tail3
  split
  · decide
  · split <;> decide
theorem flat_len {n a b j : Nat} (ha : a < n) (hb : b < n) (hn : n ≤ 11) (hj : j < 11) (hne : a ≠ b) : (sgns n a b j).flatten.length ≤ 100 := by
  have ht := tail_short j
  have hd := dig_clean j hj
  rcases Nat.lt_or_gt_of_ne hne with hlt' | hgt
  · rw [sgns_lt hlt' hb]; simp; omega
  · rw [sgns_gt hgt ha]; simp; omega

set_option maxHeartbeats 8000000 in
theorem ftp_call {B₀ : Heap} {env₀ : Env} {L0 : Addr} {oL0 : Obj} (hB₀ : ∀ b o, B₀.get? b = some o → s.heap.get? b = some o) (G₀ : Gd w mg mb B₀) (hr : Rm 2 A) (stack : A.frames = some [env₀])
    (hk0 : env₀.scope.kind ≠ .module) (hf0 : env₀.frame = some L0) (hn0 : B₀.get? L0 = none) (ho0 : s.heap.get? L0 = some oL0) (hd0 : ∀ vs, oL0.data ≠ .fields vs)
    {l : Addr} {vs : List Value} {ws : List Nat} (hl : B₀.IsList l vs.toArray) (hv : NatsAre vs ws) (hz : ws.length ≤ 11) (hlt : ∀ x ∈ ws, x < ws.length) (hnd : ws.Nodup)
    (h : ∀ h' tk t sl, (∀ x o, B₀.get? x = some o → h'.get? x = some o) → h'.get? L0 = some (slotted oL0 sl) → R (.ok (.ret (.int (inv ws : Nat) t))) { s with heap := h', toks := tk }) :
    codeAny (model prog w) A (.call (.ref 107) ⟨[.ref l], []⟩) R s := by
  refine call_def (f := 107) (G₀.keeps hB₀) hr.room rfl ?c ?b ?l (fun h₁ tk S => ?_) rfl rfl rfl ?x
  case c => kernel_rfl
  case b => rfl
  case l => rfl
  case x => rfl
  have hgl : ∀ i, i < ws.length → ws.getD i 0 < ws.length := fun i hi => by rw [← getD_at hi]; exact hlt _ (List.getElem_mem hi)
  have hL0 : L0 < s.heap.objs.size := Heap.lt_size ho0
  have S₁ : St B₀ s.heap.objs.size h₁ _ [(L0, slotted oL0 oL0.slots)] := ⟨S.ns, fun b o e => S.keep _ _ (hB₀ b o e), none_of hB₀ S.out, fun p hp => by
    rw [List.mem_singleton.mp hp]
    exact ⟨S.keep _ _ ho0, Nat.ne_of_lt hL0, hn0⟩, by simp⟩
  clear S
  obtain ⟨hh, g, d, k, o⟩ := s
  refine wpAny_execs_cons (assignN (cInt fun t₀ _ => sto S₁ fun h₃ k₃ S₃ => ?_))
  have hl₃ : h₃.IsList l vs.toArray := hl.at (S₃.keep l)
  have hsz : (vs.toArray.size : Int) = ws.length := by rw [List.size_toArray, hv.1]
  have hsz' : vs.toArray.size < 1000000 := by rw [List.size_toArray, hv.1]; omega
  refine wpAny_execs_cons (for_rangeS ws.length (fun i B m news => B₀ = B ∧ (∃ sl, [(L0, slotted oL0 sl)] = news) ∧ m (q "word") = some (.ref l) ∧ ∃ t, m (q "parted") = some (.int (invTo ws i : Nat) t)) hr.hh (by omega) ?start ?turn ?done)
  case start =>
    refine rngN (S₃.good G₀) (lenL (S₃.good G₀) (ldS S₃ (setV_ne (by decide) rfl) ⟨l, _, rfl, hl₃, hsz', fun t k => ⟨_, t, rfl, _, _, _, _, S₃, fun r t u v h' tk' S' => ?_⟩⟩))
    refine ⟨_, h', _, _, r, t, u, v, _, rfl, rfl, ?_, S'.sub (List.sublist_cons_self _ _), rfl, ⟨_, rfl⟩, setV_ne (by decide) rfl, t₀, setV_eq⟩
    have := S'.get (.head _)
    rw [hsz] at this
    exact this
  case turn =>
    rintro i _ h₄ m _ k₄ it oi t hi ⟨rfl, ⟨sl, rfl⟩, hmw, tp, hmp⟩ S₄
    refine wpAny_execs_cons (for_rangeS i (fun j B' m news => B₀ = B' ∧ (∃ sl, [(it, oi), (L0, slotted oL0 sl)] = news) ∧ m (q "word") = some (.ref l) ∧ m (q "k") = some (.int (i : Nat) t) ∧ ∃ t, m (q "parted") = some (.int (invTo ws i + cntTo ws i j : Nat) t)) hr.hh (by omega) ?start2 ?turn2 ?done2)
    case start2 =>
      refine rngN (S₄.good G₀) (ldS S₄ setV_eq ⟨_, t, rfl, _, _, _, _, S₄, fun r t' u v h' tk' S' => ⟨_, h', _, _, r, t', u, v, _, rfl, rfl, S'.get (.head _), S'.sub (List.sublist_cons_self _ _), rfl, ⟨_, rfl⟩, setV_ne (by decide) hmw, setV_eq, tp, setV_ne (by decide) hmp⟩⟩)
    case turn2 =>
      rintro j _ h₆ m₆ _ k₆ it₂ oi₂ tj hj ⟨rfl, ⟨sl₂, rfl⟩, hmw₆, hmk₆, tp₆, hmp₆⟩ S₆
      have hj' : j < ws.length := Nat.lt_trans hj hi
      have hwi := hgl i hi
      have hwj := hgl j hj'
      obtain ⟨ti, hti⟩ := hv.at hi
      obtain ⟨tj', htj⟩ := hv.at hj'
      have hti' : vs[(i : Int).toNat]? = some (Value.int (ws.getD i 0 : Nat) ti) := by rw [Int.toNat_natCast]; exact hti
      have htj' : vs[(j : Int).toNat]? = some (Value.int (ws.getD j 0 : Nat) tj') := by rw [Int.toNat_natCast]; exact htj
      have hne : ws.getD i 0 ≠ ws.getD j 0 := fun e => by
        rw [← getD_at hi, ← getD_at hj'] at e
        have := (List.getElem_inj hnd).mp e
        omega
      have hcnt : cntTo ws i (j + 1) = cntTo ws i j + if ws.getD i 0 < ws.getD j 0 then 1 else 0 := rfl
      -- signs
      refine wpAny_execs_cons (assignN (wpAny_BinOp (lstD (wpAny_items_cons (cSx [46] (by decide +kernel) fun ts _ => wpAny_items_nil ⟨_, _, _, _, S₆, Nat.le_trans (by decide : 1 ≤ 2) two_fits, fun D₁ h₇ S₇ _ => ?_⟩)))))
      refine lenL (S₇.good G₀) (ldS S₇ (setV_ne (by decide) hmw₆) ⟨l, _, rfl, hl.at (S₇.keep l), hsz', fun t₂ k₂ => ?_⟩)
      rw [hsz]
      refine mulL (S₇.sub (List.sublist_cons_self _ _)) (S₇.get (.head _)) (by omega) fun D h₈ S₈ => sto S₈ fun h₉ k₉ S₉ => ?_
      refine wpAny_execs_cons (wpAny_Assign_Subscript (cSx [40, 124] (by decide +kernel) fun ta _ => ldS S₉ setV_eq (Subscript_ (ldS S₉ (setV_ne (by decide) (setV_ne (by decide) hmw₆)) (ldS S₉ (setV_ne (by decide) (setV_ne (by decide) hmk₆)) (item_listL (hl.at (S₉.keep l)) (by omega) (by omega) hti' (setL (i := 0) S₉ rfl (by rw [List.length_replicate]; exact hwi) (by rw [List.length_replicate]; omega) fun h₁₀ S₁₀ => ?_)))))))
      refine wpAny_execs_cons (wpAny_Assign_Subscript (wpAny_BinOp (wpAny_BinOp (cSx [124, 124] (by decide +kernel) fun _ _ => callTy (S₁₀.good G₀) nsB_str boot_str (by decide) (arg1 (ldS S₁₀ (setV_ne (by decide) setV_eq) (P.str_of_int ?fit ?_)))))))
      case fit => exact Nat.lt_of_le_of_lt (Nat.log2_le_self _) (by simp; omega)
      have hd := dig_clean j (by omega)
      rw [dig_text]
      refine addSx (by decide) (by omega) fun _ _ => cSx [124, 41] (by decide +kernel) fun _ _ => addSx (by simp; omega) (by decide) fun tb kb => ?_
      refine ldS S₁₀ setV_eq (Subscript_ (ldS S₁₀ (setV_ne (by decide) (setV_ne (by decide) hmw₆)) (ldS S₁₀ (setV_ne (by decide) setV_eq) (item_listL (hl.at (S₁₀.keep l)) (by omega) (by omega) htj' (setL (i := 0) S₁₀ rfl (by rw [List.length_set, List.length_replicate]; exact hwj) (by rw [List.length_set, List.length_replicate]; omega) fun h₁₁ S₁₁ => ?_)))))
      refine wpAny_execs_cons (appS S₁₁ setV_eq (.head _) (Subscript_ (lstD (wpAny_items_cons (cSx [] (by decide +kernel) fun u₀ _ => wpAny_items_cons (cSx [124, 41] (by decide +kernel) fun u₁ _ => wpAny_items_cons (cSx [124, 124, 57, 124, 46, 41] (by decide +kernel) fun u₂ _ => wpAny_items_nil ⟨_, _, _, _, S₁₁, Nat.le_trans (by decide : 3 ≤ 4) (by decide), fun D₂ h₁₂ S₁₂ _ => ?_⟩)))))))
      have hD₂ : h₁₂.IsList D₂ [Value.str (sx []) u₀, Value.str (sx [124, 41]) u₁, Value.str (sx [124, 124, 57, 124, 46, 41]) u₂].toArray := ⟨_, S₁₂.get (.head _), rfl, _, rfl⟩
      obtain ⟨tt, htt⟩ := tail_mem j u₀ u₁ u₂
      refine wpAny_BinOp (ldS S₁₂ (setV_ne (by decide) setV_eq) (cInt fun _ _ => modI (by decide) fun _ _ => ?_))
      rw [show (j : Int).fmod 3 = ((j % 3 : Nat) : Int) from fmod_cast _ 3]
      refine kba_turn (value' := PySem.Expr.Name (PySem.Str.ofString "_") ⟨0, 0, 0, 0⟩) (fun _ => rfl) (item_listL hD₂ (by omega) (by omega) htt ?_)
      refine ⟨_, h₁₂, _, _, _, 0, _, _, rfl, S₁₂.sub (List.sublist_cons_self _ _), rfl, ?_, fun h₁₃ S₁₃ => ?_⟩
      · rw [List.length_set, List.length_set, List.length_replicate]; omega
      -- the list of the signs as it stands
      obtain ⟨rs, hrs⟩ : ∃ rs, rs = ((List.replicate ws.length (Value.str (sx [46]) ts)).set (ws.getD i 0) (Value.str (sx [40, 124]) ta)).set (ws.getD j 0) (Value.str (sx ([124, 124] ++ dig j ++ [124, 41])) tb) ++ [Value.str (sx (tail3 j)) tt] := ⟨_, rfl⟩
      have hSg : SxAre rs (sgns ws.length (ws.getD i 0) (ws.getD j 0) j) := by
        rw [hrs]; exact (((SxAre.rep _ _ _).set _ _ _).set _ _ _).snoc _ _
      have S₁₄ : St B₀ _ h₁₃ _ ((D, { cls := .type "list", data := .seq rs.toArray _ }) :: [(it₂, oi₂), (it, oi), (L0, slotted oL0 sl₂)]) := hrs ▸ S₁₃
      have hDr : h₁₃.IsList D rs.toArray := ⟨_, S₁₄.get (.head _), rfl, _, rfl⟩
      clear S₁₃ hrs S₁₂ hD₂ S₁₁ S₁₀ S₉ S₈ S₇ htt
      obtain ⟨lt, rfl, hlt2⟩ := hSg
      have hjo : JoinOk (sx []) ((sgns ws.length (ws.getD i 0) (ws.getD j 0) j).map sx) = true := by
        refine join_ok _ (fun t ht => ?_) (by unfold sgns; simp; omega)
        unfold sgns at ht
        rcases List.mem_append.mp ht with ht | ht
        · rcases List.mem_or_eq_of_mem_set ht with ht | rfl
          · rcases List.mem_or_eq_of_mem_set ht with ht | rfl
            · rw [(List.mem_replicate.mp ht).2]; decide
            · decide
          · simp; omega
        · rw [List.mem_singleton.mp ht]; have := tail_short j; omega
      refine wpAny_execs_cons (wpAny_Try_except (wpAny_execs_cons (assignN (callF (S₁₄.good G₀) ns_parse kp_parse (arg2 (wpAny_BinOp (cSx [50, 50, 57, 32] (by decide +kernel) fun tq _ => MethodCall_ (cSx [] (by decide +kernel) fun _ _ => GM.join (PyProof.Rows.callWith_method1 (arg1 (ldS S₁₄ setV_eq (SC.join hDr hlt2 hjo fun _ _ => ?_))) rfl rfl)))))))))
      rw [join_sx]
      have hflat : (sgns ws.length (ws.getD i 0) (ws.getD j 0) j).flatten.length ≤ 100 := by
        exact flat_len hwi hwj (by omega) (by omega) hne
      refine addSx (by decide) (by omega) fun tx _ => tupD (wpAny_items_cons (cSx [112, 101, 101, 114] (by decide +kernel) fun tpe _ => wpAny_items_cons (ldS S₁₄ (setV_ne (by decide) (setV_ne (by decide) hmk₆)) (wpAny_items_nil ⟨_, _, _, _, S₁₄, two_fits, fun tp' hc Sc _ => ?_⟩))))
      have hTp : IsTup hc tp' [Value.str (sx [112, 101, 101, 114]) tpe, Value.int (i : Nat) t].toArray := ⟨_, Sc.get (.head _), rfl, _, rfl⟩
      have Sc' := Sc.sub ((List.sublist_cons_self _ _).trans (List.sublist_cons_self _ _))
      refine ⟨Sc.good G₀, ?_⟩
      have K : ∀ {env : Env}, env.locals = hh.objs.size → env.frame = some hh.objs.size → env.scope.kind = .function → Below (A.deeper env) B₀ [env, env₀] hc := fun e1 e2 e3 =>
        ⟨Around.frames_deeper stack, Sc.keep, .cons (by rw [e3]; decide) e2 Sc.ns Sc.out ⟨hk0, ⟨L0, _, hf0, hn0, Sc'.get (.tail _ (.tail _ (.head _))), hd0⟩, trivial⟩⟩
      rcases Nat.lt_or_gt_of_ne hne with hlt' | hgt
      · have et : [50, 50, 57, 32] ++ (sgns ws.length (ws.getD i 0) (ws.getD j 0) j).flatten = [50, 50, 57] ++ (32 :: List.replicate (ws.getD i 0) 46) ++ 40 :: ((124 :: List.replicate (ws.getD j 0 - ws.getD i 0 - 1) 46 ++ [124, 124] ++ dig j ++ [124]) ++ 41 :: (List.replicate (ws.length - ws.getD j 0 - 1) 46 ++ tail3 j)) := by
          rw [sgns_lt hlt' hwj]; simp [List.append_assoc]
        have ht := tail_short j
        rw [et]
        refine parse_good (Sc.good G₀) (hr.deeper _) (K rfl rfl rfl) (by simp) (by simp only [List.length_cons, List.length_append, List.length_replicate]; omega) (by omega) (by omega) hTp fun h' tk' r t' hk' hrn hT => ?_
        obtain ⟨B₂, S₂, hB₂, hin, _⟩ := (Sc'.keeps hk').freeze
        have hTB : B₂.IsTuple r [Value.str (sx [112, 101, 101, 114]) tpe, Value.int (j : Nat) t'].toArray := by
          obtain ⟨ob, hob, hob'⟩ := hT
          refine ⟨ob, hin _ _ hob (fun e => ?_) (fun hm => ?_), hob'⟩
          · obtain ⟨_, _, _, ho, _⟩ := Sc.ns; rw [← e] at ho; rw [hrn] at ho; cases ho
          · obtain ⟨p, hp, e⟩ := List.mem_map.mp hm
            have := (Sc'.nw p hp).1; rw [e, hrn] at this; cases this
        refine sto S₂ fun h₁₅ k₁₅ S₁₅ => ?_
        refine wpAny_execs_nil (wpAny_execs_nil (wpAny_execs_cons (wpAny_If (wpAny_isTrue_Compare1 (ldS S₁₅ setV_eq (tupD (wpAny_items_cons (cSx [112, 101, 101, 114] (by decide +kernel) fun tpe₂ _ => wpAny_items_cons (ldS S₁₅ (setV_ne (by decide) (setV_ne (by decide) setV_eq)) (wpAny_items_nil ⟨_, _, _, _, S₁₅, two_fits, fun tp₂ h₁₆ S₁₆ _ => ?_⟩))))))))))
        refine neQ_same (hTB.at fun ob e => S₁₆.keep _ _ e) ⟨_, S₁₆.get (.head _), rfl, _, rfl⟩ (hr.deeper _).units (wpAny_truthy_bool (wpAny_execs_nil (wpAny_execs_cons (wpAny_AugAssign_Name (ldnS (S₁₆.sub (List.sublist_cons_self _ _)) (setV_ne (by decide) (setV_ne (by decide) (setV_ne (by decide) hmp₆))) (cInt fun _ _ => iaddI fun t₁₇ _ => sto (S₁₆.sub (List.sublist_cons_self _ _)) fun h₁₇ k₁₇ S₁₇ => ?_))))))
        refine wpAny_execs_nil (Turn.nxt (S₁₇.mono hB₂) ⟨rfl, ⟨_, rfl⟩, ?_, ?_, t₁₇, ?_⟩)
        · exact setV_ne (by decide) (setV_ne (by decide) (setV_ne (by decide) (setV_ne (by decide) hmw₆)))
        · exact setV_ne (by decide) (setV_ne (by decide) (setV_ne (by decide) (setV_ne (by decide) hmk₆)))
        · rw [setV_eq, hcnt, if_pos hlt']
          congr 2
      · have et : [50, 50, 57, 32] ++ (sgns ws.length (ws.getD i 0) (ws.getD j 0) j).flatten = [50, 50, 57] ++ (32 :: (List.replicate (ws.getD j 0) 46 ++ ([124, 124] ++ dig j ++ [124, 41]) ++ List.replicate (ws.getD i 0 - ws.getD j 0 - 1) 46)) ++ 40 :: (124 :: List.replicate (ws.length - ws.getD i 0 - 1) 46 ++ tail3 j) := by
          rw [sgns_gt hgt hwi]; simp [List.append_assoc]
        have ht := tail_short j
        rw [et]
        refine parse_bad (Sc.good G₀) (hr.deeper _) (K rfl rfl rfl) (by simp [hd.1]) (by simp only [List.length_cons, List.length_append, List.length_replicate, List.length_nil]; omega) hTp (refuses_gt _ _ (by omega)) fun h' tk' e X => ?_
        refine catch_proto (Around.frames_deeper stack) rfl Sc' (fun env' he' b hb => ?_) G₀ X fun h₆' hkp U => ?_
        · rw [List.mem_singleton.mp he', hf0] at hb
          rw [← Option.some.inj hb]; exact hn0
        refine wpAny_execs_cons (wpAny_Continue ?_)
        obtain ⟨sl₃, hsl₃⟩ := U _ _ (Sc'.get (.tail _ (.tail _ (.head _)))) hd0
        have hnf : ∀ {env : Env}, env.frame = some hh.objs.size → ∀ b, b ≠ hh.objs.size → b ≠ L0 → b ∉ List.filterMap (fun x : Env => x.frame) [env, env₀] := fun he0 b h1 h2 hm => by
          obtain ⟨e', he', hf'⟩ := List.mem_filterMap.mp hm
          rcases List.mem_cons.mp he' with rfl | he'
          · rw [he0] at hf'; exact h1 (Option.some.inj hf').symm
          · rw [List.mem_singleton.mp he', hf0] at hf'
            exact h2 (Option.some.inj hf').symm
        have Sn : ∀ {m : Str → Option Value}, St B₀ hh.objs.size hc m [(it₂, oi₂), (it, oi), (L0, slotted oL0 sl₂)] → St B₀ hh.objs.size h₆' m [(it₂, oi₂), (it, oi), (L0, slotted oL0 sl₃)] := fun Sc' => by
          refine ⟨U.ns Sc'.ns, fun b ob eb => hkp b ob (Sc'.keep _ _ eb) (hnf rfl b (fun q => ?_) fun q => ?_), Sc'.out, fun p hp => ?_, Sc'.nd⟩
          · rw [q] at eb; rw [Sc'.out] at eb; cases eb
          · rw [q, hn0] at eb; cases eb
          · have nd := Sc'.nd
            simp only [List.map_cons, List.map_nil, List.nodup_cons, List.mem_cons, List.not_mem_nil, or_false, not_or] at nd
            rcases List.mem_cons.mp hp with rfl | hp
            · have := Sc'.nw _ (.head _); exact ⟨hkp _ _ this.1 (hnf rfl _ this.2.1 nd.1.2), this.2⟩
            rcases List.mem_cons.mp hp with rfl | hp
            · have := Sc'.nw _ (.tail _ (.head _)); exact ⟨hkp _ _ this.1 (hnf rfl _ this.2.1 nd.2.1), this.2⟩
            · rw [List.mem_singleton.mp hp]
              have := Sc'.nw _ (.tail _ (.tail _ (.head _))); exact ⟨hsl₃, this.2⟩
        refine Turn.cnt (Sn Sc') ⟨rfl, ⟨_, rfl⟩, setV_ne (by decide) (setV_ne (by decide) hmw₆), setV_ne (by decide) (setV_ne (by decide) hmk₆), tp₆, ?_⟩
        rw [setV_ne (by decide) (setV_ne (by decide) hmp₆), hcnt, if_neg (by omega), Nat.add_zero]
    case done2 =>
      rintro _ h₆ m₆ _ k₆ ⟨rfl, ⟨sl₂, rfl⟩, hmw₆, hmk₆, tp₆, hmp₆⟩ S₆
      exact wpAny_execs_nil (Turn.nxt S₆ ⟨rfl, ⟨_, rfl⟩, hmw₆, tp₆, hmp₆⟩)
  case done =>
    rintro _ h₄ m _ k₄ ⟨rfl, ⟨sl, rfl⟩, hmw, tp, hmp⟩ S₄
    refine wpAny_execs_cons (wpAny_Return_some (ldS S₄ hmp ?_))
    exact h _ _ _ _ S₄.keep (S₄.get (.head _))
end
end Mine

namespace Mine
set_option maxRecDepth 100000
section
variable {w : World} {prog : Program} {A : Around} {R : GenEnd} {Y : Protocol} {n : Nat} {s₀ : Shared} {c : Code} {fs : List Frame} {s : Shared} {env : Env}
  {K : Flow → Sem Fin} {H : Value → Sem Fin} {gd : Bool → Bool} {lv : List Value → List Value}

/-- a plain statement in a generator's body, and what is behind it -/
theorem seg_stmt {st : Stmt} {rest : List Stmt} (h : wpAny (model prog w) (A.over c fs) (exec st env) (fun f s' => f = .next ∧ Seg (model prog w) A R Y n s₀ c ((execs rest env).wrap K H gd lv) fs s') NoE s) :
    Seg (model prog w) A R Y n s₀ c ((execs (st :: rest) env).wrap K H gd lv) fs s := by
  refine seg_execs_cons (seg_wrap (wpAny_mono h (fun f s' hf => ?_) fun _ _ x => x.elim))
  obtain ⟨rfl, hf⟩ := hf
  exact hf
theorem seg_If {test : Expr} {body orelse : List Stmt} {pos : Pos}
    (h : wpAny (model prog w) (A.over c fs) (isTrue test env (eval test env)) (fun b s' => Seg (model prog w) A R Y n s₀ c ((execs (if b then body else orelse) env).wrap K H gd lv) fs s') NoE s) :
    Seg (model prog w) A R Y n s₀ c ((exec (.If test body orelse pos) env).wrap K H gd lv) fs s := by
  rw [exec_If]
  refine seg_bind_wrap (wpAny_standAt ?_)
  refine seg_bind_wrap (wpAny_mono h (fun b s' hb => ?_) fun _ _ x => x.elim)
  cases b <;> exact hb
theorem seg_Return_none {pos : Pos} (h : Seg (model prog w) A R Y n s₀ c (K (.ret .none)) fs s) :
    Seg (model prog w) A R Y n s₀ c ((exec (.Return none pos) env).wrap K H gd lv) fs s := by
  rw [exec_Return_none]
  refine seg_bind_wrap (wpAny_standAt ?_)
  exact h

/-- the frame that waits for a loop's own tree -/
abbrev loopFr (env : Env) (K : Flow → Sem Fin) (H : Value → Sem Fin) (gd : Bool → Bool) (lv : List Value → List Value) (c : Code) (p : Pos) : Frame :=
  .ret (fun r => ((match r with | .ok f => (.pure f : Sem Flow) | .error e => .raise e).onRaise fun (x : Value) => do
        if (← field x 1) == Value.none then unsupported "frame.own-activation:exception-without-traceback"
        setFlight x env.frame).wrap K H gd lv) none (gd false) (lv []) c p []
theorem seg_runOwn {code : Code} (h : ∀ p, Seg (model prog w) A R Y n s₀ code ((model prog w).den code) (loopFr env K H gd lv c p :: fs) s) :
    Seg (model prog w) A R Y n s₀ c ((runOwn code env).wrap K H gd lv) fs s := seg_call h
theorem seg_For {target iter : Expr} {body orelse : List Stmt} {pos : Pos}
    (h : wpAny (model prog w) (A.over c fs) (eval iter env) (fun x s₁ => wpAny (model prog w) (A.over c fs) (pyIter x) (fun it s₂ =>
      ∀ p, Seg (model prog w) A R Y n s₀ (.forLoop target it body orelse env) ((model prog w).den (.forLoop target it body orelse env)) (loopFr env K H gd lv c p :: fs) s₂) NoE s₁) NoE s)
    (hs : ∀ x, foldedSetIterable iter env x = pure x := by intro _; rfl) :
    Seg (model prog w) A R Y n s₀ c ((exec (.For target iter body orelse pos) env).wrap K H gd lv) fs s := by
  rw [exec_For]
  refine seg_bind_wrap (wpAny_standAt ?_)
  refine seg_bind_wrap (wpAny_mono h (fun x s₁ h₁ => ?_) fun _ _ x => x.elim)
  refine seg_bind_wrap (wpAny_of_eq (hs x) ?_)
  refine seg_bind_wrap (wpAny_standAt ?_)
  refine seg_bind_wrap (wpAny_holding (wpAny_mono h₁ (fun it s₂ h₂ => ?_) fun _ _ x => x.elim))
  exact seg_runOwn h₂

/-- where a for's turn leads -/
abbrev forK (code : Code) : Flow → Sem Fin := fun f => match f with
  | .next | .cont => .pure (.again code)
  | .brk => .pure (.done .next)
  | .ret v => .pure (.done (.ret v))
abbrev forH (env : Env) : Value → Sem Fin := fun e => (do noteFrame e env; theTreesLotGoes e : Sem Unit).wrap (fun _ => .raise e) .raise id id
theorem seg_forLoop {x : Str} {px : Pos} {it : Value} {body orelse : List Stmt}
    (h : wpAny (model prog w) (A.over (.forLoop (.Name x px) it body orelse env) fs) (pyNext it) (fun r s' => ∃ v, r = some v ∧
        wpAny (model prog w) (A.over (.forLoop (.Name x px) it body orelse env) fs) (storeName env x v) (fun _ s'' =>
          Seg (model prog w) A R Y n s₀ (.forLoop (.Name x px) it body orelse env) ((execs body env).wrap (forK (.forLoop (.Name x px) it body orelse env)) (forH env) id id) fs s'') NoE s') NoE s) :
    Seg (model prog w) A R Y n s₀ (.forLoop (.Name x px) it body orelse env) ((model prog w).den (.forLoop (.Name x px) it body orelse env)) fs s := by
  show Seg _ A R Y n s₀ _ ((forTurn (.Name x px) it body orelse env).onRaise (fun x => do noteFrame x env; theTreesLotGoes x)) fs s
  unfold forTurn
  rw [Sem.onRaise_eq_wrap]
  refine seg_bind_wrap (wpAny_standAt ?_)
  refine seg_bind_wrap (wpAny_onRaise (wpAny_mono h (fun r s' hr => ?_) fun _ _ x => x.elim))
  obtain ⟨v, rfl, hr⟩ := hr
  refine seg_bind_wrap (wpAny_pure ?_)
  refine seg_bind_wrap (wpAny_assign_Name (wpAny_mono hr (fun _ s'' hs => ?_) fun _ _ x => x.elim))
  rw [Sem.bind_eq_wrap', Sem.wrap_wrap]
  rw [Sem.wrap_congr (execs body env) _ _ (K' := forK (.forLoop (.Name x px) it body orelse env)) (H' := forH env) (fun f => by cases f <;> rfl)
    (fun e => by first | exact Sem.bind_eq_wrap _ _ | (show (do noteFrame e env; theTreesLotGoes e : Sem Unit).bind (fun _ => .raise e) = _; rw [Sem.bind_eq_wrap]))]
  exact hs
end
end Mine

namespace Mine
set_option maxRecDepth 100000
/-- what a generator over the list l has of its own: its locals and, once begun, its iterator -/
def GOwn (B : Heap) (l Lg : Addr) (own : List (Addr × Obj)) : Prop :=
  ∃ oL, (∃ es n, oL.data = .dict es n) ∧ B.get? Lg = none ∧ (own = [(Lg, oL)] ∨ ∃ It oI k, own = [(Lg, oL), (It, oI)] ∧ oI.data = .fields #[Value.ref l, k] ∧ B.get? It = none ∧ It ≠ Lg)
/-- one waking of it leaves all else as it was -/
def GStep (B : Heap) (l Lg : Addr) (s₀ s₁ : Shared) : Prop :=
  ∃ h tk, s₁ = { s₀ with heap := h, toks := tk } ∧ (∀ b o, s₀.heap.get? b = some o → b ≠ Lg → (∀ k, o.data ≠ .fields #[Value.ref l, k]) → h.get? b = some o) ∧ (∀ b o, B.get? b = some o → h.get? b = some o)
def genY (B : Heap) (l Lg : Addr) (val : Nat → Int) (need : Nat → Prop) : Protocol := fun m s₀ v s₁ kap =>
  ∃ t own, v = Value.int (val m) t ∧ GStep B l Lg s₀ s₁ ∧ GOwn B l Lg own ∧ (∀ p ∈ own, s₁.heap.get? p.1 = some p.2) ∧
    (need m → ∀ s'' : Shared, (∀ p ∈ own, s''.heap.get? p.1 = some p.2) → (∀ b o, B.get? b = some o → s''.heap.get? b = some o) → kap (.send .none) s'')
abbrev genP (B : Heap) (l Lg : Addr) : Nat → Shared → Shared → Prop := fun n s₀ s₁ => n = 0 ∧ GStep B l Lg s₀ s₁
abbrev genR (B : Heap) (l Lg : Addr) : GenEnd := fun n s₀ r s₁ => r = .ok (.ret .none) ∧ genP B l Lg n s₀ s₁
/-- within a waking -/
def GInv (B : Heap) (l Lg It : Addr) (oI : Obj) (m : Str → Option Value) (s₀ s : Shared) : Prop :=
  ∃ B₁ h tk, s = { s₀ with heap := h, toks := tk } ∧ St B₁ Lg h m [(It, oI)] ∧ (∀ b o, B.get? b = some o → B₁.get? b = some o) ∧
    (∀ b o, s₀.heap.get? b = some o → b ≠ Lg → (∀ k, o.data ≠ .fields #[Value.ref l, k]) → B₁.get? b = some o)
section
variable {B : Heap} {l Lg It : Addr} {oI : Obj} {m : Str → Option Value} {s₀ s : Shared} {val : Nat → Int} {need : Nat → Prop} {k : Value}
theorem GInv.step (X : GInv B l Lg It oI m s₀ s) : GStep B l Lg s₀ s := by
  obtain ⟨B₁, h, tk, rfl, S, hB, ho⟩ := X
  exact ⟨h, tk, rfl, fun b o e1 e2 e3 => S.keep _ _ (ho b o e1 e2 e3), fun b o e => S.keep _ _ (hB b o e)⟩
theorem GInv.again (X : GInv B l Lg It oI m s₀ s) (hk : oI.data = .fields #[Value.ref l, k]) (hLg : B.get? Lg = none) : ∃ own, GOwn B l Lg own ∧ (∀ p ∈ own, s.heap.get? p.1 = some p.2) ∧
    ∀ s'' : Shared, (∀ p ∈ own, s''.heap.get? p.1 = some p.2) → (∀ b o, B.get? b = some o → s''.heap.get? b = some o) → GInv B l Lg It oI m s'' s'' := by
  obtain ⟨B₁, h, tk, rfl, S, hB, ho⟩ := X
  obtain ⟨oL, es, ep, hoL, hd, hsk, hf⟩ := S.ns
  have hI := S.nw _ (.head _)
  refine ⟨[(Lg, oL), (It, oI)], ⟨oL, ⟨es, ep, hd⟩, hLg, .inr ⟨It, oI, k, rfl, hk, none_of hB hI.2.2, hI.2.1⟩⟩, ?_, fun s'' hown hBs => ?_⟩
  · intro p hp
    rcases List.mem_cons.mp hp with rfl | hp
    · exact hoL
    · rw [List.mem_singleton.mp hp]; exact hI.1
  · have S'' : St B Lg s''.heap m [(It, oI)] := ⟨⟨oL, es, ep, hown _ (.head _), hd, hsk, hf⟩, hBs, hLg, fun p hp => by
      rw [List.mem_singleton.mp hp]; exact ⟨hown _ (.tail _ (.head _)), hI.2.1, none_of hB hI.2.2⟩, by simp⟩
    obtain ⟨B₂, S₂, hB₂, hin, _⟩ := S''.freeze
    refine ⟨B₂, s''.heap, s''.toks, rfl, S₂, hB₂, fun b o e1 e2 e3 => hin b o e1 e2 fun hm => ?_⟩
    have hb : b = It := by simpa using hm
    have hi2 := (S₂.nw _ (.head _)).1
    rw [← hb, e1] at hi2
    cases hi2
    exact e3 k hk
theorem GInv.yields (X : GInv B l Lg It oI m s₀ s) (hk : oI.data = .fields #[Value.ref l, k]) (hLg : B.get? Lg = none) {n : Nat} {x : Int} {t : Tok} (hx : x = val n) {kap : Resume → Shared → Prop}
    (h : need n → ∀ s'', GInv B l Lg It oI m s'' s'' → kap (.send .none) s'') : genY B l Lg val need n s₀ (Value.int x t) s kap := by
  obtain ⟨own, h1, h2, h3⟩ := X.again hk hLg
  exact ⟨t, own, by rw [hx], X.step, h1, h2, fun hn s'' a b => h hn s'' (h3 s'' a b)⟩
theorem GInv.set {B₁ h' : Heap} {m' : Str → Option Value} {oI' : Obj} {tk' : Nat} (hB : ∀ b o, B.get? b = some o → B₁.get? b = some o)
    (ho : ∀ b o, s₀.heap.get? b = some o → b ≠ Lg → (∀ k, o.data ≠ .fields #[Value.ref l, k]) → B₁.get? b = some o) (S : St B₁ Lg h' m' [(It, oI')]) : GInv B l Lg It oI' m' s₀ ⟨h', s₀.gens, s₀.drawn, tk', s₀.os⟩ :=
  ⟨B₁, h', tk', rfl, S, hB, ho⟩
end

section
variable {M : Model} {A : Around} {R : GenEnd} {Y : Protocol} {c : Code} {fs : List Frame} {need : Nat → Prop}
theorem loop_ind (LI : Nat → Shared → Shared → Prop) (stop N : Nat)
    (turn : ∀ i s₀ s, i < stop → need (N - i) → LI i s₀ s → (∀ s₀ s, need (N - (i + 1)) → LI (i + 1) s₀ s → Seg M A R Y (N - (i + 1)) s₀ c (M.den c) fs s) → Seg M A R Y (N - i) s₀ c (M.den c) fs s)
    (base : ∀ s₀ s, need (N - stop) → LI stop s₀ s → Seg M A R Y (N - stop) s₀ c (M.den c) fs s) :
    ∀ s₀ s, need N → LI 0 s₀ s → Seg M A R Y N s₀ c (M.den c) fs s := by
  have key : ∀ d i, i + d = stop → ∀ s₀ s, need (N - i) → LI i s₀ s → Seg M A R Y (N - i) s₀ c (M.den c) fs s := by
    intro d
    induction d with
    | zero =>
      intro i hi s₀ s hn hL
      have e : i = stop := by omega
      subst e
      exact base s₀ s hn hL
    | succ d ih =>
      intro i hi s₀ s hn hL
      exact turn i s₀ s (by omega) hn hL fun s₀ s => ih (i + 1) (by omega) s₀ s
  exact fun s₀ s => key stop 0 (by omega) s₀ s
theorem while_ind (WI : Shared → Shared → Prop) (top : Nat) (h0 : ¬ need 0)
    (turn : ∀ n s₀ s, n + 1 ≤ top → need (n + 1) → WI s₀ s → (∀ s₀ s, need n → WI s₀ s → Seg M A R Y n s₀ c (M.den c) fs s) → Seg M A R Y (n + 1) s₀ c (M.den c) fs s) :
    ∀ n s₀ s, n ≤ top → need n → WI s₀ s → Seg M A R Y n s₀ c (M.den c) fs s := by
  intro n
  induction n with
  | zero => intro s₀ s _ hn; exact absurd hn h0
  | succ n ih => intro s₀ s ht hn hW; exact turn n s₀ s ht hn hW fun s₀ s => ih s₀ s (by omega)
theorem seg_inner {env : Env} {K : Flow → Sem Fin} {H : Value → Sem Fin} {gd : Bool → Bool} {lv : List Value → List Value} {c₁ : Code} {p : Pos} {n : Nat} {s₀ s : Shared} {t : Sem Fin} (P : Frame → Prop)
    (h : ∀ fr, P fr → Seg M A R Y n s₀ c t [fr] s) (hp : P (loopFr env K H gd lv c₁ p)) : Seg M A R Y n s₀ c t (loopFr env K H gd lv c₁ p :: []) s := h _ hp
end

section
variable {w : World} {prog : Program} {mg mb : Str → Option Value} {A : Around} {s : Shared} {R : Result → Shared → Prop}
theorem ns_charmax : ∃ t, nsIn (KF w) mainGlobals (q "CHAR_MAX") = some (some (Value.int 127 t)) := ⟨_, rfl⟩
/-- the list's values are these whole numbers -/
def IntsOf (vs : List Value) (xs : List Int) : Prop := vs.length = xs.length ∧ ∀ (i : Nat) (x : Int), xs[i]? = some x → ∃ t, vs[i]? = some (Value.int x t)
structure GenHyp (xs : List Int) (stop N : Nat) (val : Nat → Int) (need : Nat → Prop) : Prop where
  plain : ∀ i, i < stop → ∃ x, xs[i]? = some x ∧ x ≠ 127 ∧ x ≠ 0
  pos : ∀ i, i < stop → need (N - i) → i < N
  vals : ∀ i, i < stop → i < N → xs[i]? = some (val (N - (i + 1)))
  kind : (xs[stop]? = some 127 ∧ N = stop) ∨ (xs[stop]? = some 0 ∧ 0 < stop ∧ ¬ need 0 ∧ ∀ m, m < N - stop → xs[stop - 1]? = some (val m))
  start : need N
end
end Mine

namespace Mine
set_option maxRecDepth 100000
section
variable {w : World} {prog : Program} {mg mb : Str → Option Value} {A : Around} {s : Shared} {R : Result → Shared → Prop}
/-- a generator that stands at s, made over the list l -/
def GGoes (w : World) (prog : Program) (A : Around) (B : Heap) (l Lg : Addr) (val : Nat → Int) (need : Nat → Prop) (n : Nat) (gs : GenState) (own : List (Addr × Obj)) : Prop :=
  ∀ s'' : Shared, (∀ p ∈ own, s''.heap.get? p.1 = some p.2) → (∀ b o, B.get? b = some o → s''.heap.get? b = some o) → gs.Goes (model prog w) A (genR B l Lg) (genY B l Lg val need) n (.send .none) s''

set_option maxHeartbeats 8000000 in
theorem gen_call (G : Gd w mg mb s.heap) (hroom : A.depth < recursionLimit) {l : Addr} {vs : List Value} {xs : List Int} (hv : IntsOf vs xs)
    (h : ∀ h' tk a Lg oL gs, (∀ b o, s.heap.get? b = some o → h'.get? b = some o) → s.heap.get? Lg = none → s.heap.get? a = none → h'.get? Lg = some oL → (∃ es n, oL.data = .dict es n) → h'.IsGen a s.gens.size → a ≠ Lg → gs.bare = true →
      (∀ (A' : Around) (B : Heap) (stop N : Nat) (val : Nat → Int) (need : Nat → Prop), A'.handled = none → Gd w mg mb B → B.IsList l vs.toArray → B.get? Lg = none → GenHyp xs stop N val need → GGoes w prog A' B l Lg val need N gs [(Lg, oL)]) →
      R (.ok (.ret (.ref a))) { s with heap := h', gens := s.gens.push gs, toks := tk }) :
    codeAny (model prog w) A (.call (.ref 79) ⟨[.ref l], []⟩) R s := by
  obtain ⟨tC, hC⟩ := ns_charmax (w := w)
  refine codeAny_call_generator hroom (G.X 79 _ rfl) rfl rfl rfl rfl (codeRec_of G.X ?c) (wpAny_of_eq (a := [(q "grouping", .ref l)]) rfl (wpAny_newFunctionEnv ?cell ?loc (fun h₁ hn hs => ⟨?lim, ?main⟩) rfl))
  case c => kernel_rfl
  case cell => decide
  case loc => intro x hx; rw [List.mem_singleton.mp hx]; rfl
  case lim => exact G.T.nolimit.keeps fun b o e => hs.extBut b o (Nat.ne_of_lt (Heap.lt_size e)) (Heap.get?_push_of_some _ e)
  case main =>
    have hk₁ : ∀ b o, s.heap.get? b = some o → h₁.get? b = some o := fun b o e => hs.extBut b o (Nat.ne_of_lt (Heap.lt_size e)) (Heap.get?_push_of_some _ e)
    have hsz : h₁.objs.size = s.heap.objs.size + 1 := by rw [hs.1, Heap.size_push]
    obtain ⟨oL, es, ep, hoL, hd, hsk, hf⟩ := id hn
    refine h _ _ _ s.heap.objs.size oL _ (fun b o e => Heap.get?_push_of_some _ (hk₁ b o e)) (Heap.get?_none_of_le (Nat.le_refl _)) (Heap.get?_none_of_le (by rw [hsz]; exact Nat.le_succ _)) (Heap.get?_push_of_some _ hoL) ⟨es, ep, hd⟩
      ⟨_, _, _, Heap.get?_push_size _ rfl, rfl, rfl, rfl⟩ (by rw [hsz]; exact Nat.succ_ne_self _) rfl ?_
    intro A' B stop N val need hh GB hl hLg X s'' hown hBs
    refine ⟨rfl, seg_func ?_⟩
    have S₀ : St B s.heap.objs.size s''.heap _ [] := ⟨⟨oL, es, ep, hown _ (.head _), hd, hsk, hf⟩, hBs, hLg, (fun p hp => nomatch hp), .nil⟩
    obtain ⟨B₁, S₁, hB₁, hin, _⟩ := S₀.freeze
    have ho₁ : ∀ b o, s''.heap.get? b = some o → b ≠ s.heap.objs.size → B₁.get? b = some o := fun b o e1 e2 => hin b o e1 e2 fun hm => nomatch hm
    obtain ⟨hh'', g'', d'', tk'', o''⟩ := s''
    refine seg_stmt (assignN (wpAny_Constant_none (sto S₁ fun h₂ k₂ S₂ => ⟨rfl, ?_⟩)))
    refine seg_execs_cons (seg_For (ldS S₂ (setV_ne (by decide) rfl) (wpAny_pyIter_list (hl.at fun o e => S₂.keep _ _ (hB₁ _ _ e)) ?_)))
    intro p
    refine seg_inner (fun fr => splitAtGen [fr] = none ∧ [fr].any Frame.guarded = false ∧ (∀ code, (A'.over code [fr]).handled = none) ∧
      (∀ env K H (gd : Bool → Bool) lv c p, gd false = false → splitAtGen [loopFr env K H gd lv c p, fr] = none ∧ [loopFr env K H gd lv c p, fr].any Frame.guarded = false) ∧
      ∀ c' s₀ s₁, GStep B l s.heap.objs.size s₀ s₁ → Seg (model prog w) A' (genR B l s.heap.objs.size) (genY B l s.heap.objs.size val need) 0 s₀ c' (leafOf (.ok (.ret .none))) [fr] s₁) ?_ ⟨rfl, rfl, fun _ => hh, fun _ _ _ _ _ _ _ hg => ⟨rfl, by simp [Frame.guarded, hg]⟩, fun c' s₀ s₁ hst => seg_leaf _ (seg_end (.ok (.ret .none)) ⟨rfl, rfl, hst⟩)⟩
    rintro fr ⟨hspl, hgrd, hhand, hspl2, hret⟩
    refine loop_ind (fun i s₀ s' => ∃ m oI v, GInv B l s.heap.objs.size h₂.objs.size oI m s₀ s' ∧ oI.cls = .type "list_iterator" ∧ oI.data = .fields #[Value.ref l, .int (i : Nat) 0] ∧ m (q "last_interval") = some v ∧ (0 < i → ∃ x t, xs[i - 1]? = some x ∧ v = .int x t)) stop N ?turn ?base _ _ X.start
      ⟨_, _, _, GInv.set hB₁ (fun b o e1 e2 _ => ho₁ b o e1 e2) (S₂.push _), rfl, rfl, setV_eq, fun h => absurd h (Nat.lt_irrefl _)⟩
    case turn =>
      rintro i s₀ s' hi hneed ⟨m, oI, v, ⟨B₃, h₃, k₃, rfl, S₃, hB₃, ho₃⟩, hc, hdt, hml, hvl⟩ next
      obtain ⟨x, hx, hx1, hx2⟩ := X.plain i hi
      obtain ⟨tx, htx⟩ := hv.2 i x hx
      have hiN := X.pos i hi hneed
      have hval := X.vals i hi hiN
      obtain ⟨n, hn⟩ : ∃ n, N - i = n + 1 := ⟨N - (i + 1), by omega⟩
      have hn' : N - (i + 1) = n := by omega
      rw [hn'] at hval next
      rw [hn]
      refine seg_forLoop (wpAny_pyNext_list_item (x := .int x tx) ⟨_, S₃.get (.head _), hc, hdt⟩ (hl.at fun o e => S₃.keep _ _ (hB₃ _ _ e)) (by simpa using htx) fun h₄ hit hs₄ => ⟨_, rfl, ?_⟩)
      obtain ⟨oI', ho', hc', hd'⟩ := hit
      have S₄ := S₃.upd 0 rfl hs₄ ho'
      refine sto S₄ fun h₅ k₅ S₅ => ?_
      have G₅ := (S₅.mono hB₃).good GB
      refine seg_execs_cons (seg_If (wpAny_isTrue_Compare1 (ldS S₅ setV_eq (ldG G₅ hC (eqI (wpAny_truthy_bool ?_))))))
      rw [show (x == 127) = false from by simpa using hx1]
      refine seg_execs_nil (seg_execs_cons (seg_If (wpAny_isTrue_Compare1 (ldS S₅ setV_eq (cInt fun _ _ => eqI (wpAny_truthy_bool ?_))))))
      rw [show (x == 0) = false from by simpa using hx2]
      refine seg_execs_nil (seg_execs_cons (seg_Expr_Yield hspl rfl hgrd (ldS S₅ setV_eq fun kap hkap => (GInv.set hB₃ ho₃ S₅).yields hd' hLg (by rw [hx] at hval; exact Option.some.inj hval) fun hneed' s'' X'' => hkap .none s'' ?_)))
      obtain ⟨hh₆, g₆, d₆, k₆, o₆⟩ := s''
      obtain ⟨B₆, h₆, k₆', e₆, S₆, hB₆, ho₆⟩ := X''
      obtain ⟨rfl, rfl⟩ : hh₆ = h₆ ∧ k₆ = k₆' := by simpa using e₆
      refine seg_stmt (assignN (ldS S₆ setV_eq (sto S₆ fun h₇ k₇ S₇ => ⟨rfl, seg_execs_nil (seg_again rfl (next _ _ hneed' ⟨_, oI', .int x tx, GInv.set hB₆ ho₆ S₇, hc', hd', setV_eq, fun _ => ⟨x, tx, by simpa using hx, rfl⟩⟩))⟩)))
    case base =>
      rintro s₀ s' hneed ⟨m, oI, v, ⟨B₃, h₃, k₃, rfl, S₃, hB₃, ho₃⟩, hc, hdt, hml, hvl⟩
      rcases X.kind with ⟨h127, hN⟩ | ⟨hx0, hst0, hn0, hvm⟩
      · obtain ⟨tx, htx⟩ := hv.2 stop 127 h127
        rw [show N - stop = 0 from by omega]
        refine seg_forLoop (wpAny_pyNext_list_item (x := .int 127 tx) ⟨_, S₃.get (.head _), hc, hdt⟩ (hl.at fun o e => S₃.keep _ _ (hB₃ _ _ e)) (by simpa using htx) fun h₄ hit hs₄ => ⟨_, rfl, ?_⟩)
        obtain ⟨oI', ho', hc', hd'⟩ := hit
        have S₄ := S₃.upd 0 rfl hs₄ ho'
        refine sto S₄ fun h₅ k₅ S₅ => ?_
        have G₅ := (S₅.mono hB₃).good GB
        refine seg_execs_cons (seg_If (wpAny_isTrue_Compare1 (ldS S₅ setV_eq (ldG G₅ hC (eqI (wpAny_truthy_bool ?_))))))
        rw [show ((127 : Int) == 127) = true from by decide]
        exact seg_execs_cons (seg_Return_none (hret _ _ _ (GInv.set hB₃ ho₃ S₅).step))
      · obtain ⟨tx, htx⟩ := hv.2 stop 0 hx0
        obtain ⟨xl, tl, hxl, rfl⟩ := hvl hst0
        refine seg_forLoop (wpAny_pyNext_list_item (x := .int 0 tx) ⟨_, S₃.get (.head _), hc, hdt⟩ (hl.at fun o e => S₃.keep _ _ (hB₃ _ _ e)) (by simpa using htx) fun h₄ hit hs₄ => ⟨_, rfl, ?_⟩)
        obtain ⟨oI', ho', hc', hd'⟩ := hit
        have S₄ := S₃.upd 0 rfl hs₄ ho'
        refine sto S₄ fun h₅ k₅ S₅ => ?_
        have G₅ := (S₅.mono hB₃).good GB
        refine seg_execs_cons (seg_If (wpAny_isTrue_Compare1 (ldS S₅ setV_eq (ldG G₅ hC (eqI (wpAny_truthy_bool ?_))))))
        rw [show ((0 : Int) == 127) = false from by decide]
        refine seg_execs_nil (seg_execs_cons (seg_If (wpAny_isTrue_Compare1 (ldS S₅ setV_eq (cInt fun _ _ => eqI (wpAny_truthy_bool ?_))))))
        rw [show ((0 : Int) == 0) = true from by decide]
        refine seg_execs_cons (seg_If (wpAny_isTrue_Compare1 (ldS S₅ (setV_ne (by decide) hml) (wpAny_Constant_none (is_int_none (wpAny_truthy_bool ?_))))))
        refine seg_execs_nil (seg_execs_cons (seg_While ?_))
        intro p₂
        refine while_ind (fun s₀ s' => GInv B l s.heap.objs.size h₂.objs.size oI' (setV (q "interval") (.int 0 tx) m) s₀ s') (N - stop) hn0 ?wturn _ _ _ (Nat.le_refl _) hneed (GInv.set hB₃ ho₃ S₅)
        rintro n s₁ s₂ hle hnd ⟨B₆, h₆, k₆, rfl, S₆, hB₆, ho₆⟩ next
        have hval := hvm n (by omega)
        refine seg_whileLoop (wpAny_isTrue_value (wpAny_Constant_bool (wpAny_truthy_bool ?_)))
        rw [if_pos rfl]
        refine seg_execs_cons (seg_Expr_Yield (hspl2 _ _ _ _ _ _ _ rfl).1 rfl (hspl2 _ _ _ _ _ _ _ rfl).2 (ldS S₆ (setV_ne (by decide) hml) fun kap hkap => (GInv.set hB₆ ho₆ S₆).yields hd' hLg (by rw [hxl] at hval; exact Option.some.inj hval) fun hneed' s'' X'' => hkap .none s'' ?_))
        exact seg_execs_nil (seg_again rfl (next _ _ hneed' X''))
end
end Mine

namespace Mine
set_option maxRecDepth 100000
section
variable {w : World} {prog : Program} {A : Around} {E : Value → Shared → Prop} {s : Shared}
/-- next(it) of a generator that has one more to give -/
theorem call_next {a : Addr} {g n : Nat} {gs : GenState} {P : Nat → Shared → Shared → Prop} {Y : Protocol} {Q : Value → Shared → Prop}
    (hl : s.heap.NoLimit) (hroom : A.depth < recursionLimit)
    (hg : s.heap.IsGen a g) (hgs : s.gens[g]? = some gs)
    (hgo : gs.Goes (model prog w) A.in1.in1 (fun n s₀ r s₁ => r = .ok (.ret .none) ∧ P n s₀ s₁) Y n (.send .none) (s.setGen g .running))
    (hY : ∀ v s₁ gs', gs'.bare = true → Y (n - 1) (s.setGen g .running) v s₁ (fun r' s'' => match n with
        | 0 => False
        | m + 1 => gs'.Goes (model prog w) A.in1.in1 (fun n s₀ r s₁ => r = .ok (.ret .none) ∧ P n s₀ s₁) Y m r' s'') → Q v (s₁.setGen g gs'))
    (hP : ∀ s₁, ¬ P n (s.setGen g .running) s₁) :
    wpAny (model prog w) A (call (.builtin "next") [.ref a]) Q E s := by
  refine call_function_entry (by decide +kernel) (by decide +kernel) kdk_entry_next (kdk_args_next _) ?_
  unfold Builtin.«next»
  refine wpAny_bind (m := someArgs "next" 1 2 _) (wpAny_of_eq (a := [Value.ref a]) (by first | rfl | kernel_rfl!) ?_)
  dsimp only
  refine wpAny_bind (wpAny_specialOf (name := Str.ofString "__next__") hg.typeIs slot_gen_next.lookup ?_)
  refine wpAny_ite_split (fun hab => absurd hab (by decide)) (fun _ => ?_)
  refine wpAny_bind (wpAny_callSpecial?_slot (name := Str.ofString "__next__") hg.typeIs slot_gen_next
    (wpAny_call_entry slot_gen_next hg.typeIs entry_gen_next ?_ (args_gen_next _)))
  show wpAny _ A.in1.in1 (Builtin.Generator.genWake (.ref a) (.send .none)) _ _ s
  unfold Builtin.Generator.genWake
  refine wpAny_bind (wpAny_holding (wpAny_genNumber hg (wpAny_bind (wpAny_genState hgs ?_))))
  cases gs with
  | running => exact hgo.elim
  | finished => exact hgo.elim
  | _ =>
    refine wpAny_bind (wpAny_roomToWake hl hroom ?_)
    show wpAny _ A.in1.in1 (.resume g (.send .none) [] _) _ _ s
    refine wpAny_resumeQ hgs hgo (fun x s₁ hx => absurd hx.2 (hP s₁)) (fun v s₁ gs' hb hv => ?_)
    exact wpAny_pure ⟨v, rfl, wpAny_pure ⟨v, rfl, hY v s₁ gs' hb hv⟩⟩
end
end Mine

namespace Mine
set_option maxRecDepth 100000
theorem St.perm {B h : Heap} {L : Addr} {m : Str → Option Value} {news news' : List (Addr × Obj)} (S : St B L h m news) (hp : news.Perm news') : St B L h m news' :=
  ⟨S.ns, S.keep, S.out, fun p hm => S.nw p (hp.mem_iff.mpr hm), (hp.map _).nodup_iff.mp S.nd⟩
theorem GOwn.nodup {B : Heap} {l Lg : Addr} {own : List (Addr × Obj)} (X : GOwn B l Lg own) : (own.map (·.1)).Nodup := by
  obtain ⟨oL, _, _, rfl | ⟨It, oI, k, rfl, _, _, hne⟩⟩ := X
  · simp
  · simp [Ne.symm hne]
theorem GOwn.none {B : Heap} {l Lg : Addr} {own : List (Addr × Obj)} (X : GOwn B l Lg own) : ∀ p ∈ own, B.get? p.1 = none := by
  obtain ⟨oL, _, h0, rfl | ⟨It, oI, k, rfl, _, h1, _⟩⟩ := X
  · intro p hp; rw [List.mem_singleton.mp hp]; exact h0
  · intro p hp
    rcases List.mem_cons.mp hp with rfl | hp
    · exact h0
    · rw [List.mem_singleton.mp hp]; exact h1
theorem GOwn.head {B : Heap} {l Lg : Addr} {own : List (Addr × Obj)} (X : GOwn B l Lg own) : Lg ∈ own.map (·.1) := by
  obtain ⟨oL, _, _, rfl | ⟨It, oI, k, rfl, _, _, _⟩⟩ := X <;> simp
/-- an entry of it: the locals, or an iterator over l -/
theorem GOwn.entry {B : Heap} {l Lg : Addr} {own : List (Addr × Obj)} (X : GOwn B l Lg own) : ∀ p ∈ own, (p.1 = Lg ∧ ∃ es n, p.2.data = .dict es n) ∨ ∃ k, p.2.data = .fields #[Value.ref l, k] := by
  obtain ⟨oL, hd, _, rfl | ⟨It, oI, k, rfl, hk, _, _⟩⟩ := X
  · intro p hp; rw [List.mem_singleton.mp hp]; exact .inl ⟨rfl, hd⟩
  · intro p hp
    rcases List.mem_cons.mp hp with rfl | hp
    · exact .inl ⟨rfl, hd⟩
    · rw [List.mem_singleton.mp hp]; exact .inr ⟨k, hk⟩
/-- no entry is an iterator over l -/
def NoIter (l : Addr) (rest : List (Addr × Obj)) : Prop := ∀ p ∈ rest, ∀ k, p.2.data ≠ .fields #[Value.ref l, k]
theorem GOwn.noIter {B : Heap} {l l' Lg : Addr} {own : List (Addr × Obj)} (X : GOwn B l Lg own) (hl : l ≠ l') : NoIter l' own := by
  intro p hp k' e
  rcases X.entry p hp with ⟨_, es, n, h⟩ | ⟨k, h⟩
  · rw [h] at e; cases e
  · rw [h] at e
    injection e with e
    have := congrArg (fun a : Array Value => a[0]?) e
    simp at this
    exact hl this

theorem St.gstep {B : Heap} {l Lg L : Addr} {m : Str → Option Value} {own own' rest : List (Addr × Obj)} {s₀ s₁ : Shared} (S : St B L s₀.heap m (own ++ rest)) (hown : GOwn B l Lg own) (X : GStep B l Lg s₀ s₁) (hown' : GOwn B l Lg own')
    (hin : ∀ p ∈ own', s₁.heap.get? p.1 = some p.2) (hrest : NoIter l rest) : ∃ h tk, s₁ = { s₀ with heap := h, toks := tk } ∧ St B L h m (own' ++ rest) := by
  obtain ⟨h, tk, rfl, hk, hB⟩ := X
  obtain ⟨oL, es, ep, hoL, hd, hsk, hf⟩ := S.ns
  have hLg : Lg ≠ L := by
    obtain ⟨p, hp, e⟩ := List.mem_map.mp hown.head
    exact e ▸ (S.nw p (List.mem_append_left _ hp)).2.1
  have hL : h.get? L = some oL := hk L oL hoL (Ne.symm hLg) fun k e => by rw [hd] at e; cases e
  have hnd := S.nd
  rw [List.map_append, List.nodup_append] at hnd
  have hrLg : ∀ p ∈ rest, p.1 ≠ Lg := fun p hp e => hnd.2.2 Lg hown.head p.1 (List.mem_map.mpr ⟨p, hp, rfl⟩) e.symm
  have hr : ∀ p ∈ rest, h.get? p.1 = some p.2 := fun p hp => hk _ _ (S.nw p (List.mem_append_right _ hp)).1 (hrLg p hp) (hrest p hp)
  refine ⟨h, tk, rfl, ⟨oL, es, ep, hL, hd, hsk, hf⟩, fun b o e => hB b o e, S.out, fun p hp => ?_, ?_⟩
  · rcases List.mem_append.mp hp with hp | hp
    · refine ⟨hin p hp, fun e => ?_, hown'.none p hp⟩
      rcases hown'.entry p hp with ⟨e', _⟩ | ⟨k, hkd⟩
      · exact hLg (e'.symm.trans e)
      · have := hin p hp
        rw [e] at this
        rw [show ({ s₀ with heap := h, toks := tk } : Shared).heap = h from rfl, hL] at this
        cases this
        rw [hd] at hkd; cases hkd
    · have := S.nw p (List.mem_append_right _ hp)
      exact ⟨hr p hp, this.2.1, this.2.2⟩
  · rw [List.map_append, List.nodup_append]
    refine ⟨hown'.nodup, hnd.2.1, fun a ha b hb e => ?_⟩
    obtain ⟨p, hp, rfl⟩ := List.mem_map.mp ha
    obtain ⟨q', hq, rfl⟩ := List.mem_map.mp hb
    rcases hown'.entry p hp with ⟨e', _⟩ | ⟨k, hkd⟩
    · exact hrLg q' hq (e.symm.trans e')
    · have h1 := hin p hp
      have h2 := hr q' hq
      rw [show ({ s₀ with heap := h, toks := tk } : Shared).heap = h from rfl, e, h2] at h1
      exact hrest q' hq k (by rw [Option.some.inj h1]; exact hkd)

section
variable {w : World} {prog : Program} {mg mb : Str → Option Value} {A : Around} {E : Value → Shared → Prop} {h : Heap} {g : Array GenState} {d : Drawn} {tk : Nat} {o : OsState}
  {B : Heap} {L l Lg a : Addr} {m : Str → Option Value} {own rest : List (Addr × Obj)} {gs : GenState} {gi n : Nat} {val : Nat → Int} {need : Nat → Prop}
theorem gens_after {g : Array GenState} {gi : Nat} {gs x y : GenState} {s : Shared} (e : s.gens = g) (hgs : g[gi]? = some gs) :
    ((s.setGen gi x).setGen gi y).gens[gi]? = some y ∧ GenOnly gi g ((s.setGen gi x).setGen gi y).gens := by
  subst e
  exact ⟨setGen_self (x := y) (setGen_self (x := x) hgs), (GenOnly.setGen s gi x).trans (GenOnly.setGen _ gi y)⟩
/-- every generator but one can be left as it is -/
def AllBut (gi : Nat) (g : Array GenState) : Prop := ∀ (k : Nat) (x : GenState), k ≠ gi → g[k]? = some x → x.bare = true
theorem AllBut.of {gi : Nat} {g : Array GenState} (h : AllBare g) : AllBut gi g := fun _ _ _ e => h _ (Array.mem_of_getElem? e)
theorem AllBut.turn {gi : Nat} {g g' : Array GenState} (h : AllBut gi g) (hG : GenOnly gi g g') : AllBut gi g' := fun k x hk e => h k x hk ((hG.2 k hk).symm.trans e)
theorem AllBut.other {gi gj : Nat} {g g' : Array GenState} {y : GenState} (h : AllBut gi g) (hG : GenOnly gj g g') (hy : g'[gj]? = some y) (hb : y.bare = true) : AllBut gi g' := fun k x hk e => by
  by_cases hj : k = gj
  · subst hj; rw [hy] at e; cases e; exact hb
  · exact h k x hk ((hG.2 k hj).symm.trans e)
theorem AllBut.all {gi : Nat} {g : Array GenState} {y : GenState} (h : AllBut gi g) (hy : g[gi]? = some y) (hb : y.bare = true) : AllBare g := fun x hx => by
  obtain ⟨k, hk, rfl⟩ := Array.mem_iff_getElem.mp hx
  by_cases hj : k = gi
  · subst hj; rw [Array.getElem?_eq_getElem hk] at hy; cases hy; exact hb
  · exact h k _ hj (Array.getElem?_eq_getElem hk)
theorem nextG (S : St B L h m (own ++ rest)) (GB : Gd w mg mb B) (hroom : A.depth < recursionLimit) (hg : h.IsGen a gi) (hgs : g[gi]? = some gs) (hgo : GGoes w prog A.in1.in1 B l Lg val need (n + 1) gs own)
    (hown : GOwn B l Lg own) (hrest : NoIter l rest) {Q : Value → Shared → Prop}
    (hQ : ∀ t h' tk' g' gs' own', St B L h' m (own' ++ rest) → GOwn B l Lg own' → (need n → GGoes w prog A.in1.in1 B l Lg val need n gs' own') → g'[gi]? = some gs' → GenOnly gi g g' → gs'.bare = true → Q (.int (val n) t) ⟨h', g', d, tk', o⟩) :
    wpAny (model prog w) A (call (.builtin "next") [.ref a]) Q E ⟨h, g, d, tk, o⟩ := by
  refine call_next (n := n + 1) (P := genP B l Lg) (Y := genY B l Lg val need) ((GB.keeps S.keep).T.nolimit) hroom hg hgs (hgo _ (fun p hp => (S.nw p (List.mem_append_left _ hp)).1) S.keep) (fun v s₁ gs' hb hY => ?_) (fun s₁ hp => absurd hp.1 (Nat.succ_ne_zero n))
  obtain ⟨t, own', rfl, X, ho', hin, hk⟩ := hY
  obtain ⟨h', tk', rfl, S'⟩ := S.gstep (s₀ := (⟨h, g, d, tk, o⟩ : Shared).setGen gi .running) hown X ho' hin hrest
  obtain ⟨h1, h2⟩ := gens_after (g := g) (x := .running) (y := gs') (s := ⟨h', g, d, tk', o⟩) rfl hgs
  exact hQ t h' tk' _ gs' own' S' ho' (fun hn s'' a b => hk hn s'' a b) h1 h2 hb
theorem forG_item (S : St B L h m (own ++ rest)) (GB : Gd w mg mb B) (hh : A.handled = none) (hroom : A.depth < recursionLimit) (hg : h.IsGen a gi) (hgs : g[gi]? = some gs) (hgo : GGoes w prog A.in1 B l Lg val need (n + 1) gs own)
    (hown : GOwn B l Lg own) (hrest : NoIter l rest) {Q : Option Value → Shared → Prop}
    (hQ : ∀ t h' tk' g' gs' own', St B L h' m (own' ++ rest) → GOwn B l Lg own' → (need n → GGoes w prog A.in1 B l Lg val need n gs' own') → g'[gi]? = some gs' → GenOnly gi g g' → Q (some (.int (val n) t)) ⟨h', g', d, tk', o⟩) :
    wpAny (model prog w) A (pyNext (.ref a)) Q E ⟨h, g, d, tk, o⟩ := by
  refine wpAny_pyNext_gen (n := n + 1) (P := genP B l Lg) (Y := genY B l Lg val need) hh ((GB.keeps S.keep).T.nolimit) hroom hg hgs (hgo _ (fun p hp => (S.nw p (List.mem_append_left _ hp)).1) S.keep) (fun v s₁ gs' hY => ?_) (fun s₁ hp => absurd hp.1 (Nat.succ_ne_zero n))
  obtain ⟨t, own', rfl, X, ho', hin, hk⟩ := hY
  obtain ⟨h', tk', rfl, S'⟩ := S.gstep (s₀ := (⟨h, g, d, tk, o⟩ : Shared).setGen gi .running) hown X ho' hin hrest
  obtain ⟨h1, h2⟩ := gens_after (g := g) (x := .running) (y := gs') (s := ⟨h', g, d, tk', o⟩) rfl hgs
  exact hQ t h' tk' _ gs' own' S' ho' (fun hn s'' a b => hk hn s'' a b) h1 h2
theorem forG_end (S : St B L h m (own ++ rest)) (GB : Gd w mg mb B) (hh : A.handled = none) (hroom : A.depth < recursionLimit) (hg : h.IsGen a gi) (hgs : g[gi]? = some gs) (hgo : GGoes w prog A.in1 B l Lg val (fun _ => True) 0 gs own)
    (hown : GOwn B l Lg own) (hrest : NoIter l rest) {Q : Option Value → Shared → Prop}
    (hQ : ∀ h' tk' g', St B L h' m rest → (AllBut gi g → AllBare g') → Q none ⟨h', g', d, tk', o⟩) :
    wpAny (model prog w) A (pyNext (.ref a)) Q E ⟨h, g, d, tk, o⟩ := by
  refine wpAny_pyNext_gen (n := 0) (P := genP B l Lg) (Y := genY B l Lg val (fun _ => True)) hh ((GB.keeps S.keep).T.nolimit) hroom hg hgs (hgo _ (fun p hp => (S.nw p (List.mem_append_left _ hp)).1) S.keep) (fun v s₁ gs' hY => ?_) (fun s₁ hp h' hk' => ?_)
  · obtain ⟨t, own', rfl, X, ho', hin, hk⟩ := hY
    exact (hk trivial s₁ hin (by obtain ⟨h', tk', rfl, _, hB⟩ := X; exact hB)).elim
  · obtain ⟨_, h₁, tk₁, rfl, hk, hB⟩ := hp
    obtain ⟨oL, es, ep, hoL, hd, hsk, hf⟩ := S.ns
    have hLg : Lg ≠ L := by
      obtain ⟨p, hp, e⟩ := List.mem_map.mp hown.head
      exact e ▸ (S.nw p (List.mem_append_left _ hp)).2.1
    have hnd := S.nd
    rw [List.map_append, List.nodup_append] at hnd
    have hrLg : ∀ p ∈ rest, p.1 ≠ Lg := fun p hp e => hnd.2.2 Lg hown.head p.1 (List.mem_map.mpr ⟨p, hp, rfl⟩) e.symm
    have S' : St B L h₁ m rest := ⟨⟨oL, es, ep, hk L oL hoL (Ne.symm hLg) (fun k e => by rw [hd] at e; cases e), hd, hsk, hf⟩, hB, S.out, fun p hp => by
      have := S.nw p (List.mem_append_right _ hp)
      exact ⟨hk _ _ this.1 (hrLg p hp) (hrest p hp), this.2.1, this.2.2⟩, hnd.2.1⟩
    obtain ⟨h1, h2⟩ := gens_after (g := g) (x := .running) (y := .finished) (s := ⟨h₁, g, d, tk₁, o⟩) rfl hgs
    exact hQ h' _ _ (S'.keeps hk') fun hA => (hA.turn h2).all h1 rfl
end
end Mine

namespace Mine
set_option maxRecDepth 100000
/-- the word of a ring of p places, after j marks -/
def wTo (p a b : Nat) : Nat → List Nat
  | 0 => List.replicate p 0
  | j + 1 => (wTo p a b j).set (((j + 1) * a) % p) (((j + 1) * b) % p)
def wordOf (p a b : Nat) : List Nat := wTo p a b (p - 1)
theorem wTo_len (p a b j : Nat) : (wTo p a b j).length = p := by
  induction j with
  | zero => simp [wTo]
  | succ j ih => simp [wTo, ih]
theorem NatsAre.set {vs : List Value} {ws : List Nat} (X : NatsAre vs ws) (i x : Nat) (t : Tok) : NatsAre (vs.set i (.int (x : Nat) t)) (ws.set i x) := by
  refine ⟨by simp [X.1], fun j y hj => ?_⟩
  rw [List.getElem?_set] at hj ⊢
  split at hj
  · rename_i e
    subst e
    split at hj
    · rename_i hl
      cases hj
      exact ⟨t, by rw [if_pos rfl, if_pos (by rw [X.1]; exact hl)]⟩
    · cases hj
  · rename_i e
    rw [if_neg e]
    exact X.2 j y hj
theorem NatsAre.rep (n x : Nat) (t : Tok) : NatsAre (List.replicate n (.int (x : Nat) t)) (List.replicate n x) := by
  refine ⟨by simp, fun i y hy => ?_⟩
  rw [List.getElem?_replicate] at hy ⊢
  split at hy
  · rename_i h; cases hy; exact ⟨t, by rw [if_pos h]⟩
  · cases hy

section
variable {B B2 h : Heap} {L : Addr} {m : Str → Option Value} {news ex : List (Addr × Obj)}
/-- the objects ex may be taken into the base, and they alone -/
structure Absorb (B B2 : Heap) (ex : List (Addr × Obj)) : Prop where
  sub : ∀ b o, B.get? b = some o → B2.get? b = some o
  only : ∀ b o, B2.get? b = some o → B.get? b = some o ∨ (b, o) ∈ ex
  has : ∀ p ∈ ex, B2.get? p.1 = some p.2 ∧ B.get? p.1 = none
  nd : (ex.map (·.1)).Nodup
theorem St.contract (S : St B L h m (news ++ ex)) (X : Absorb B B2 ex) : St B2 L h m news := by
  have hnd := S.nd
  rw [List.map_append, List.nodup_append] at hnd
  refine ⟨S.ns, fun b o e => ?_, ?_, fun p hp => ?_, hnd.1⟩
  · rcases X.only b o e with e | e
    · exact S.keep b o e
    · exact (S.nw _ (List.mem_append_right _ e)).1
  · cases q : B2.get? L with
    | none => rfl
    | some o =>
      rcases X.only L o q with e | e
      · rw [S.out] at e; cases e
      · exact absurd rfl (S.nw _ (List.mem_append_right _ e)).2.1
  · have := S.nw p (List.mem_append_left _ hp)
    refine ⟨this.1, this.2.1, ?_⟩
    cases q : B2.get? p.1 with
    | none => rfl
    | some o =>
      rcases X.only _ o q with e | e
      · rw [this.2.2] at e; cases e
      · exact absurd rfl (hnd.2.2 p.1 (List.mem_map.mpr ⟨p, hp, rfl⟩) p.1 (List.mem_map.mpr ⟨_, e, rfl⟩))
theorem St.expand (S : St B2 L h m news) (X : Absorb B B2 ex) : St B L h m (news ++ ex) := by
  refine ⟨S.ns, fun b o e => S.keep _ _ (X.sub b o e), none_of X.sub S.out, fun p hp => ?_, ?_⟩
  · rcases List.mem_append.mp hp with hp | hp
    · have := S.nw p hp; exact ⟨this.1, this.2.1, none_of X.sub this.2.2⟩
    · refine ⟨S.keep _ _ (X.has p hp).1, fun e => ?_, (X.has p hp).2⟩
      have := (X.has p hp).1
      rw [e, S.out] at this; cases this
  · rw [List.map_append, List.nodup_append]
    refine ⟨S.nd, X.nd, fun a ha b hb e => ?_⟩
    obtain ⟨p, hp, rfl⟩ := List.mem_map.mp ha
    obtain ⟨r, hr, rfl⟩ := List.mem_map.mp hb
    have h1 := (S.nw p hp).2.2
    rw [e, (X.has r hr).1] at h1; cases h1
theorem St.absorb (S : St B L h m (news ++ ex)) : ∃ B2, Absorb B B2 ex := by
  have hnd := S.nd
  rw [List.map_append, List.nodup_append] at hnd
  obtain ⟨hid, hhid⟩ : ∃ hid : List Addr, ∀ b, b ∈ hid ↔ (b < h.objs.size ∧ B.get? b = none ∧ b ∉ ex.map (·.1)) := by
    classical
    refine ⟨(List.range h.objs.size).filter fun b => decide (B.get? b = none ∧ b ∉ ex.map (·.1)), fun b => ?_⟩
    rw [List.mem_filter, List.mem_range, decide_eq_true_iff]
  have hin : ∀ b o, h.get? b = some o → (B.get? b = some o ∨ (b, o) ∈ ex) → (hideAll h hid).get? b = some o := fun b o e hor => by
    refine hideAll_get _ e fun hm => ?_
    obtain ⟨_, hn, hx⟩ := (hhid b).mp hm
    rcases hor with h1 | h1
    · rw [h1] at hn; cases hn
    · exact hx (List.mem_map.mpr ⟨_, h1, rfl⟩)
  have honly : ∀ b o, (hideAll h hid).get? b = some o → B.get? b = some o ∨ (b, o) ∈ ex := fun b o e => by
    have eh := of_hideAll _ e
    cases q : B.get? b with
    | some o' =>
      have := S.keep _ _ q
      rw [eh] at this; cases this; exact .inl rfl
    | none =>
      refine .inr ?_
      by_cases hb : b ∈ ex.map (·.1)
      · obtain ⟨p, hp, rfl⟩ := List.mem_map.mp hb
        have := (S.nw p (List.mem_append_right _ hp)).1
        rw [eh] at this; cases this; exact hp
      · rw [hideAll_none _ ((hhid b).mpr ⟨Heap.lt_size eh, q, hb⟩)] at e; cases e
  exact ⟨hideAll h hid, fun b o e => hin b o (S.keep b o e) (.inl e), honly, fun p hp => ⟨hin _ _ (S.nw p (List.mem_append_right _ hp)).1 (.inr hp), (S.nw p (List.mem_append_right _ hp)).2.2⟩, hnd.2.1⟩
end
section
variable {w : World} {prog : Program} {A : Around} {E : Value → Shared → Prop} {h : Heap} {g : Array GenState} {d : Drawn} {tk : Nat} {o : OsState}
variable {B : Heap} {L : Addr} {m : Str → Option Value} {news : List (Addr × Obj)}
theorem addL {l1 l2 : Addr} {vs ws : List Value} {n1 n2 : Nat} {Q : Value → Shared → Prop} (S : St B L h m news) (h1 : h.get? l1 = some { cls := .type "list", data := .seq vs.toArray n1 }) (h2 : h.get? l2 = some { cls := .type "list", data := .seq ws.toArray n2 }) (hz : vs.length + ws.length < 10000)
    (hQ : ∀ D h', St B L h' m ((D, { cls := .type "list", data := .seq (vs ++ ws).toArray }) :: news) → Q (.ref D) ⟨h', g, d, tk, o⟩) :
    wpAny (model prog w) A (binaryOp .Add (.ref l1) (.ref l2)) Q E ⟨h, g, d, tk, o⟩ := by
  refine PySem.P.add_list (s := ⟨h, g, d, tk, o⟩) h1 h2 ?_ (by rw [List.size_toArray, List.size_toArray, sizeLine_eq]; omega)
  have := hQ _ _ (S.push { cls := .type "list", data := .seq (vs ++ ws).toArray })
  rw [← List.append_toArray] at this
  exact this
/-- the two rows of _law_word, as data -/
theorem hyp_walk (lead first : Int) (N : Nat) (hN : 0 < N) (h1 : lead ≠ 127 ∧ lead ≠ 0) (h2 : first ≠ 127 ∧ first ≠ 0) :
    GenHyp [lead, first, 0, 127] 2 N (fun m => if m + 1 = N then lead else first) (fun m => 0 < m) where
  plain := fun i hi => by
    match i, hi with
    | 0, _ => exact ⟨lead, rfl, h1⟩
    | 1, _ => exact ⟨first, rfl, h2⟩
  pos := fun i _ hn => by omega
  vals := fun i hi hiN => by
    match i, hi with
    | 0, _ => simp; omega
    | 1, _ => simp; omega
  kind := .inr ⟨rfl, by decide, by decide, fun m hm => by simp; omega⟩
  start := hN
theorem hyp_row (x : Int) (k : Nat) (h1 : x ≠ 127 ∧ x ≠ 0) : GenHyp (List.replicate k x ++ [127, 0]) k k (fun _ => x) (fun _ => True) where
  plain := fun i hi => ⟨x, by rw [List.getElem?_append_left (by simpa using hi), List.getElem?_replicate, if_pos hi], h1⟩
  pos := fun i hi _ => hi
  vals := fun i hi _ => by rw [List.getElem?_append_left (by simpa using hi), List.getElem?_replicate, if_pos hi]
  kind := .inl ⟨by rw [List.getElem?_append_right (by simp)]; simp, rfl⟩
  start := trivial
theorem ints_row (k : Nat) (v : Value) (x : Int) (t t1 t2 : Tok) (hv : v = .int x t) : IntsOf (List.replicate k v ++ [.int 127 t1, .int 0 t2]) (List.replicate k x ++ [127, 0]) := by
  subst hv
  refine ⟨by simp, fun i y hy => ?_⟩
  by_cases hi : i < k
  · rw [List.getElem?_append_left (by simpa using hi), List.getElem?_replicate, if_pos hi] at hy ⊢
    cases hy; exact ⟨t, rfl⟩
  · rw [List.getElem?_append_right (by simp; omega)] at hy ⊢
    simp only [List.length_replicate] at hy ⊢
    match i - k, hy with
    | 0, hy => cases hy; exact ⟨_, rfl⟩
    | 1, hy => cases hy; exact ⟨_, rfl⟩
theorem ints_walk (lead first : Int) (t1 t2 t3 t4 : Tok) : IntsOf [.int lead t1, .int first t2, .int 0 t3, .int 127 t4] [lead, first, 0, 127] := by
  refine ⟨rfl, fun i y hy => ?_⟩
  match i, hy with
  | 0, hy => cases hy; exact ⟨_, rfl⟩
  | 1, hy => cases hy; exact ⟨_, rfl⟩
  | 2, hy => cases hy; exact ⟨_, rfl⟩
  | 3, hy => cases hy; exact ⟨_, rfl⟩
end
end Mine

namespace Mine
set_option maxRecDepth 100000
section
variable {B h h' : Heap} {L : Addr} {m : Str → Option Value} {news : List (Addr × Obj)}
/-- an object that was not there at h -/
theorem St.more (S : St B L h m news) (hk : ∀ b o, h.get? b = some o → h'.get? b = some o) {a : Addr} {o : Obj} (hn : h.get? a = none) (ho : h'.get? a = some o) : St B L h' m ((a, o) :: news) := by
  have S' := S.keeps hk
  refine ⟨S'.ns, S'.keep, S'.out, fun p hp => ?_, ?_⟩
  · rcases List.mem_cons.mp hp with rfl | hp
    · refine ⟨ho, fun e => ?_, none_of S.keep hn⟩
      obtain ⟨oL, _, _, hoL, _⟩ := S.ns
      rw [← e] at hoL; simp only at hoL; rw [hn] at hoL; cases hoL
    · exact S'.nw p hp
  · refine List.nodup_cons.mpr ⟨fun hm => ?_, S.nd⟩
    obtain ⟨p, hp, e⟩ := List.mem_map.mp hm
    have := (S.nw p hp).1
    rw [e] at this; simp only at this; rw [hn] at this; cases this
theorem St.add (S : St B L h m news) {a : Addr} {o : Obj} (ho : h.get? a = some o) (hL : a ≠ L) (hB : B.get? a = none) (hn : a ∉ news.map (·.1)) : St B L h m ((a, o) :: news) := by
  refine ⟨S.ns, S.keep, S.out, fun p hp => ?_, List.nodup_cons.mpr ⟨hn, S.nd⟩⟩
  rcases List.mem_cons.mp hp with rfl | hp
  · exact ⟨ho, hL, hB⟩
  · exact S.nw p hp
theorem St.more2 (S : St B L h m news) (hk : ∀ b o, h.get? b = some o → h'.get? b = some o) {a a' : Addr} {o o' : Obj} (hn : h.get? a = none) (ho : h'.get? a = some o) (hn' : h.get? a' = none) (ho' : h'.get? a' = some o') (hne : a ≠ a') : St B L h' m ((a, o) :: (a', o') :: news) := by
  have S1 := S.more hk hn ho
  refine (S.more hk hn' ho').add ho (S1.nw _ (.head _)).2.1 (S1.nw _ (.head _)).2.2 fun hm => ?_
  rcases List.mem_cons.mp hm with e | e
  · exact hne e
  · exact (List.nodup_cons.mp S1.nd).1 e
theorem perm4 {α : Type} (x y z w : α) (os : List α) : (x :: y :: z :: w :: os).Perm ((os ++ ([x] ++ [w])) ++ [z, y]) := by
  have h : (x :: y :: z :: w :: os).Perm ([x, w, z, y] ++ os) := .cons x ((List.Perm.swap z y _).trans (((List.Perm.swap w y _).cons z).trans (List.Perm.swap w z _)))
  refine h.trans ?_
  rw [show (os ++ ([x] ++ [w])) ++ [z, y] = os ++ [x, w, z, y] from by simp]
  exact List.perm_append_comm
theorem St.toWalk {B2 : Heap} {ex o1 o2 r : List (Addr × Obj)} (X : Absorb B B2 ex) (S : St B2 L h m (o2 ++ (o1 ++ r))) : St B L h m (o1 ++ ((o2 ++ r) ++ ex)) := by
  have := (S.perm (List.perm_append_comm_assoc _ _ _)).expand X
  rwa [List.append_assoc] at this
theorem St.ofWalk {B2 : Heap} {ex o1 o2 r : List (Addr × Obj)} (X : Absorb B B2 ex) (S : St B L h m (o1 ++ ((o2 ++ r) ++ ex))) : St B2 L h m (o1 ++ (o2 ++ r)) := by
  rw [← List.append_assoc] at S
  exact S.contract X
theorem St.first {o1 o2 : List (Addr × Obj)} {x : Addr × Obj} (S : St B L h m (o1 ++ (o2 ++ [x]))) : St B L h m (x :: (o1 ++ o2)) := by
  refine S.perm ?_
  rw [← List.append_assoc]; exact List.perm_append_comm
theorem St.last {o1 o2 : List (Addr × Obj)} {x : Addr × Obj} (S : St B L h m (x :: (o1 ++ o2))) : St B L h m (o1 ++ (o2 ++ [x])) := by
  refine S.perm ?_
  rw [← List.append_assoc]; exact (List.perm_append_comm (l₁ := o1 ++ o2) (l₂ := [x])).symm
end
abbrev lstO (vs : List Value) (n : Nat) : Obj := { cls := .type "list", data := .seq vs.toArray n }
/-- ahead of a draw of the second ruler's size -/
def WI (w : World) (prog : Program) (A : Around) (B : Heap) (d : Drawn) (o : OsState) (L D : Addr) (n a b : Nat) (lead : Int) (t₁ t₄ : Tok) (l1 Lg1 a1 : Addr) (gi1 : Nat) (val1 : Nat → Int) (g0 : Array GenState) (it : Value) (r : Nat) (s' : Shared) : Prop :=
  ∃ B2 ex l2 a2 Lg2 gi2 j h g tk m own1 own2 gs1 gs2 vs nD,
    it = .ref a2 ∧ r = n + 1 - j ∧ j ≤ n ∧ s' = ⟨h, g, d, tk, o⟩ ∧
    Absorb B B2 ex ∧ NoIter l1 ex ∧ l1 ≠ l2 ∧ B2.IsGen a2 gi2 ∧ gi1 ≠ gi2 ∧
    St B2 L h m (own1 ++ (own2 ++ [(D, lstO vs nD)])) ∧ GOwn B l1 Lg1 own1 ∧ GOwn B2 l2 Lg2 own2 ∧
    (0 < n - j → GGoes w prog A.in1.in1 B l1 Lg1 val1 (fun m => 0 < m) (n - j) gs1 own1) ∧ GGoes w prog A.in1 B2 l2 Lg2 (fun _ => (b : Int)) (fun _ => True) (n - j) gs2 own2 ∧
    g[gi1]? = some gs1 ∧ g[gi2]? = some gs2 ∧ (AllBare g0 → AllBut gi2 g) ∧ NatsAre vs (wTo (n + 1) a b j) ∧
    m (q "walk") = some (.ref a1) ∧ m (q "ring") = some (.int (n + 1 : Nat) t₁) ∧ m (q "lead") = some (.int lead t₄) ∧ m (q "word") = some (.ref D) ∧
    (∃ t, m (q "ahead") = some (.int (lead + (j * a : Nat)) t)) ∧ (∃ t, m (q "behind") = some (.int (j * b % (n + 1) : Nat) t))
section
variable {w : World} {prog : Program} {mg mb : Str → Option Value} {A : Around} {s : Shared} {R : Result → Shared → Prop}
theorem for_SA {s : Shared} {env : Env} {target iter : Expr} {body : List Stmt} {pos : Pos} {Q : Flow → Shared → Prop} (I : Around → Value → Nat → Shared → Prop)
    (start : wpAny (model prog w) A (eval iter env) (fun x s₁ => wpAny (model prog w) A (pyIter x) (fun it s₂ => ∃ n, I A it n s₂) NoE s₁) NoE s)
    (turn : ∀ it n s, I A it n s → wpAny (model prog w) A (pyNext it) (fun r s₁ => match r with
      | none => Q .next s₁
      | some v => wpAny (model prog w) A (assign target env v) (fun _ s₂ => wpAny (model prog w) A (execs body env) (fun f s₃ => match f with
          | .next | .cont => ∃ m, m < n ∧ I A it m s₃
          | .brk => Q .next s₃
          | .ret v => Q (.ret v) s₃) NoE s₂) NoE s₁) NoE s)
    (hs : ∀ x, foldedSetIterable iter env x = pure x) (ht : ∀ it v, letOwnedTupleGo target it v = pure ()) :
    wpAny (model prog w) A (exec (.For target iter body [] pos) env) Q NoE s := for_S (I A) start turn hs ht
theorem ns_grp : nsIn (KF w) mainGlobals (q "_grouping_intervals") = some (some (.ref 79)) := by kernel_rfl
theorem kp_grp : keepIn (KF w) (.ref 79) = true := by kernel_rfl
theorem nsB_next : nsIn (KF w) mainGlobals (q "next") = some none := by kernel_rfl
theorem four_fits : 4 ≤ sizeLine := by decide

set_option maxHeartbeats 8000000 in
theorem word_call (G : Gd w mg mb s.heap) (hr : Rm 2 A) {p a b : Nat} {lead : Int} (hp : 0 < p) (hp' : p ≤ 100) (ha : 0 < a ∧ a ≤ 100) (hb : 0 < b ∧ b ≤ 100) (hl : 0 < lead ∧ lead ≤ 101) {t₁ t₂ t₃ t₄ : Tok}
    (h : ∀ h' g' tk D vs, (∀ x o, s.heap.get? x = some o → h'.get? x = some o) → (AllBare s.gens → AllBare g') → s.heap.get? D = none → h'.IsList D vs.toArray → NatsAre vs (wordOf p a b) → R (.ok (.ret (.ref D))) { s with heap := h', gens := g', toks := tk }) :
    codeAny (model prog w) A (.call (.ref 93) ⟨[.int p t₁, .int a t₂, .int b t₃, .int lead t₄], []⟩) R s := by
  obtain ⟨n, rfl⟩ : ∃ n, p = n + 1 := ⟨p - 1, by omega⟩
  refine call_def (f := 93) G hr.room rfl ?c ?b ?l (fun h₁ tk S => ?_) rfl rfl rfl ?x
  case c => kernel_rfl
  case b => rfl
  case l => rfl
  case x => rfl
  obtain ⟨hh, g, d, k, o⟩ := s
  obtain ⟨val1, hv1⟩ : ∃ v : Nat → Int, v = fun m => if m + 1 = n + 1 then lead else (a : Int) := ⟨_, rfl⟩
  have hv1n : val1 n = lead := by rw [hv1]; simp
  have hv1m : ∀ m, m < n → val1 m = a := fun m hm => by rw [hv1]; simp; omega
  -- the first ruler
  refine wpAny_execs_cons (assignN (callF (S.good G) ns_grp kp_grp (arg1 (lstD (wpAny_items_cons (ldS S rfl (wpAny_items_cons (ldS S rfl (wpAny_items_cons (cInt fun t₅ _ => wpAny_items_cons (cInt fun t₆ _ => wpAny_items_nil ⟨_, _, _, _, S, four_fits, fun l1 h₂ S₂ _ => ⟨S₂.good G, gen_call (S₂.good G) (hr.deeper _).room (ints_walk lead a t₄ t₂ t₅ t₆) fun h₃ k₃ a1 Lg1 oL1 gs1 hk₃ hLn han hL1 hd1 hg1 haL hb1 hgo1 => ?_⟩⟩)))))))))))
  obtain ⟨B₁, S₃, hB₁, hin₁, _⟩ := (S₂.sub (List.sublist_cons_self _ _)).freeze
  have hl1 : B₁.IsList l1 [Value.int lead t₄, .int a t₂, .int 0 t₅, .int 127 t₆].toArray := ⟨_, hin₁ _ _ (S₂.get (.head _)) (S₂.nw _ (.head _)).2.1 (fun hm => nomatch hm), rfl, _, rfl⟩
  obtain ⟨B, S₅, hB, hin, _⟩ := (S₃.more hk₃ hLn hL1).freeze
  have haneL : a1 ≠ hh.objs.size := fun e => by
    obtain ⟨oL, _, _, hoL, _⟩ := S₃.ns
    rw [← e] at hoL; rw [han] at hoL; cases hoL
  have hgB : B.IsGen a1 g.size := by
    obtain ⟨og, nm, qn, hog, r⟩ := hg1
    exact ⟨og, nm, qn, hin _ _ hog haneL (by simpa using haL), r⟩
  have hBs : ∀ x o, hh.get? x = some o → B.get? x = some o := fun x o e => hB _ _ (hB₁ _ _ e)
  have GB : Gd w mg mb B := G.keeps hBs
  have hl1B := hl1.at (hB l1)
  have go1 : ∀ A' : Around, A'.handled = none → GGoes w prog A' B l1 Lg1 val1 (fun m => 0 < m) (n + 1) gs1 [(Lg1, oL1)] := fun A' hA => by
    rw [hv1]
    exact hgo1 A' B 2 (n + 1) _ _ hA GB hl1B (S₅.nw _ (.head _)).2.2 (hyp_walk lead a (n + 1) hp (by omega) (by omega))
  have ho1 : GOwn B l1 Lg1 [(Lg1, oL1)] := ⟨oL1, hd1, (S₅.nw _ (.head _)).2.2, .inl rfl⟩
  clear hgo1 hin hin₁ hB hB₁ S₃ hl1 S₂
  show wpAny _ _ (storeName _ _ _) _ _ (⟨h₃, g.push gs1, d, k₃, o⟩ : Shared)
  refine sto S₅ fun h₅ k₅ S₆ => ?_
  refine wpAny_execs_cons (assignN (callBu (S₆.good GB) nsB_next boot_next (by decide) (arg1 (ldS S₆ setV_eq (nextG (own := [(Lg1, oL1)]) (rest := []) S₆ GB (hr.deeper _).room (hgB.keeps S₆.keep) (Array.getElem?_push_size ..) (go1 _ hr.hh) ho1 (fun _ hp => nomatch hp) fun t₇ h₇ k₇ g₇ gs₇ own₇ S₇ ho₇ hgo₇ hgs₇ hG₇ hA₇ => ?_)))))
  rw [hv1n]
  rw [List.append_nil] at S₇
  refine sto S₇ fun h₈ k₈ S₈ => ?_
  refine wpAny_execs_cons (assignN (cInt fun t₉ _ => sto S₈ fun h₉ k₉ S₉ => ?_))
  refine wpAny_execs_cons (assignN (wpAny_BinOp (lstD (wpAny_items_cons (cInt fun t₁₀ _ => wpAny_items_nil ⟨_, _, _, _, S₉, Nat.le_trans (by decide : 1 ≤ 2) two_fits, fun D₁ h₁₀ S₁₀ _ => ldS S₁₀ (setV_ne (by decide) (setV_ne (by decide) (setV_ne (by decide) rfl))) (mulL (n := n + 1) (S₁₀.sub (List.sublist_cons_self _ _)) (S₁₀.get (.head _)) (by omega) fun D h₁₁ S₁₁ => sto S₁₁ fun h₁₂ k₁₂ S₁₂ => ?_)⟩)))))
  refine wpAny_execs_cons (for_SA (fun A₁ => WI w prog A₁ B d o hh.objs.size D n a b lead t₁ t₄ l1 Lg1 a1 g.size val1 g) ?start ?turn (fun _ => rfl) (fun _ _ => rfl))
  case start =>
    refine callF (S₁₂.good GB) ns_grp kp_grp (arg1 (wpAny_BinOp (wpAny_BinOp (lstD (wpAny_items_cons (ldS S₁₂ (setV_ne (by decide) (setV_ne (by decide) (setV_ne (by decide) (setV_ne (by decide) rfl)))) (wpAny_items_nil ⟨_, _, _, _, S₁₂, Nat.le_trans (by decide : 1 ≤ 2) two_fits, fun D₂ h₁₃ S₁₃ _ => wpAny_BinOp (ldS S₁₃ (setV_ne (by decide) (setV_ne (by decide) (setV_ne (by decide) (setV_ne (by decide) rfl)))) (cInt fun _ _ => subI fun _ _ => ?_))⟩)))))))
    rw [show (((n + 1 : Nat) : Int) - 1) = ((n : Nat) : Int) from by omega]
    refine mulL (n := n) (S₁₃.sub (List.sublist_cons_self _ _)) (S₁₃.get (.head _)) (by omega) fun D₃ h₁₄ S₁₄ => lstD (wpAny_items_cons (cInt fun ta _ => wpAny_items_cons (cInt fun tb _ => wpAny_items_nil ⟨_, _, _, _, S₁₄, two_fits, fun D₄ h₁₅ S₁₅ _ => addL S₁₅ (S₁₅.get (.tail _ (.head _))) (S₁₅.get (.head _)) (by simp; omega) fun l2 h₁₆ S₁₆ => ?_⟩)))
    refine ⟨S₁₆.good GB, gen_call (S₁₆.good GB) (hr.deeper _).room (ints_row n (.int b t₃) b t₃ ta tb rfl) fun h₁₇ k₁₇ a2 Lg2 oL2 gs2 hk₁₇ hLn2 han2 hL2 hd2 hg2 haL2 hb2 hgo2 => ?_⟩
    refine wpAny_pyIter_gen hg2 ⟨n + 1, ?_⟩
    obtain ⟨og, nm, qn, hog, hoc, hod, hos⟩ := hg2
    have S₁₈ := ((S₁₆.sub (.cons₂ _ (.cons _ (.cons _ (.refl _))))).more2 hk₁₇ hLn2 hL2 han2 hog (Ne.symm haL2)).perm (perm4 _ _ _ _ _)
    obtain ⟨B2, X⟩ := S₁₈.absorb
    have S₂₀ := S₁₈.contract X
    have hl2B2 : B2.IsList l2 (List.replicate n (Value.int b t₃) ++ [Value.int 127 ta, Value.int 0 tb]).toArray := ⟨_, (X.has _ (.head _)).1, rfl, _, rfl⟩
    have hne12 : l1 ≠ l2 := fun e => by
      obtain ⟨_, ho, _⟩ := hl1B
      have := (X.has _ (.head _)).2
      simp only at this
      rw [e, this] at ho; cases ho
    have hLg2 : B2.get? Lg2 = none := (S₂₀.nw (Lg2, oL2) (List.mem_append_right _ (.head _))).2.2
    refine ⟨B2, _, l2, a2, Lg2, g₇.size, 0, h₁₇, g₇.push gs2, _, _, own₇, [(Lg2, oL2)], gs₇, gs2, _, _, rfl, by omega, Nat.zero_le _, rfl, X, ?_, hne12, ⟨og, nm, qn, (X.has _ (.tail _ (.head _))).1, hoc, hod, hos⟩, ?_, S₂₀, ho₇, ⟨oL2, hd2, hLg2, .inl rfl⟩, ?_, ?_, ?_, Array.getElem?_push_size .., fun hg => .of ((((AllBut.of (gi := g.size) (hg.push hb1)).turn hG₇).all hgs₇ hA₇).push hb2), NatsAre.rep _ 0 _, ?_, ?_, ?_, setV_eq, ⟨t₇, setV_ne (by decide) (setV_ne (by decide) ?_)⟩, ⟨t₉, setV_ne (by decide) ?_⟩⟩
    · intro p hp k e
      rcases List.mem_cons.mp hp with rfl | hp
      · cases e
      · rw [List.mem_singleton.mp hp] at e
        simp only [hod] at e
        injection e with e
        have := congrArg Array.size e
        simp at this
    · have := hG₇.1
      rw [Array.size_push] at this
      omega
    · intro h0; exact hgo₇ h0
    · exact hgo2 _ B2 n n _ _ hr.hh (GB.keeps X.sub) hl2B2 hLg2 (hyp_row b n (by omega))
    · have := hG₇.1
      rw [Array.size_push] at this
      rw [Array.getElem?_push, if_neg (by omega)]; exact hgs₇
    · exact setV_ne (by decide) (setV_ne (by decide) (setV_ne (by decide) setV_eq))
    · exact setV_ne (by decide) (setV_ne (by decide) (setV_ne (by decide) (setV_ne (by decide) rfl)))
    · exact setV_ne (by decide) (setV_ne (by decide) (setV_ne (by decide) (setV_ne (by decide) rfl)))
    · rw [setV_eq]; simp
    · rw [setV_eq]; simp
  case turn =>
    rintro it r s' ⟨B2, ex, l2, a2, Lg2, gi2, j, h₃₀, g₃₀, k₃₀, m, own1, own2, gs1, gs2, vs, nD, rfl, rfl, hj, rfl, X, hni, hne12, hg2, hgi, S₃₀, ho1', ho2, hgo1', hgo2, hgs1, hgs2, hAB, hN, hmw, hmr, hml, hmd, ⟨ta, hma⟩, ⟨tb, hmb⟩⟩
    have GB2 := GB.keeps X.sub
    have hni2 : NoIter l2 (own1 ++ [(D, lstO vs nD)]) := fun p hp k e => by
      rcases List.mem_append.mp hp with hp | hp
      · exact ho1'.noIter hne12 p hp k e
      · rw [List.mem_singleton.mp hp] at e; cases e
    by_cases hlt : j < n
    · obtain ⟨i, hi⟩ : ∃ i, n - j = i + 1 := ⟨n - j - 1, by omega⟩
      have hgo1'' := hgo1' (by omega)
      rw [hi] at hgo1'' hgo2
      refine forG_item (own := own2) (rest := own1 ++ [(D, lstO vs nD)]) (S₃₀.perm (List.perm_append_comm_assoc _ _ _)) GB2 (by exact hr.hh) (hr.deeper _).room (hg2.keeps S₃₀.keep) hgs2 hgo2 ho2 hni2 fun t₃₁ h₃₁ k₃₁ g₃₁ gs2' own2' S₃₁ ho2' hgo2' hgs2' hG₃₁ => ?_
      refine wpAny_assign_Name (sto S₃₁ fun h₃₂ k₃₂ S₃₂ => ?_)
      have hni1 : NoIter l1 ((own2' ++ [(D, lstO vs nD)]) ++ ex) := fun p hp k e => by
        rcases List.mem_append.mp hp with hp | hp
        · rcases List.mem_append.mp hp with hp | hp
          · exact ho2'.noIter (Ne.symm hne12) p hp k e
          · rw [List.mem_singleton.mp hp] at e; cases e
        · exact hni p hp k e
      have S₃₃ := S₃₂.toWalk X
      refine wpAny_execs_cons (wpAny_AugAssign_Name (ldnS S₃₂ (setV_ne (by decide) hma) (callBu (S₃₂.good GB2) nsB_next boot_next (by decide) (arg1 (ldS S₃₂ (setV_ne (by decide) hmw) (nextG S₃₃ GB (hr.deeper _).room (hgB.keeps S₃₃.keep) (by rw [hG₃₁.2 _ hgi]; exact hgs1) hgo1'' ho1' hni1 fun t₃₄ h₃₄ k₃₄ g₃₄ gs1' own1' S₃₄ ho1'' hgo1''' hgs1' hG₃₄ hA₃₄ => ?_))))))
      rw [hv1m i (by omega)]
      have S₃₅ := S₃₄.ofWalk X
      refine iaddI fun t₃₆ k₃₆ => ?_
      rw [show lead + (j * a : Nat) + (a : Int) = lead + ((j + 1) * a : Nat) from by push_cast; rw [Int.add_mul]; omega]
      refine sto S₃₅ fun h₃₆ k₃₆ S₃₆ => ?_
      refine wpAny_execs_cons (assignN (wpAny_BinOp (wpAny_BinOp (ldS S₃₆ (setV_ne (by decide) (setV_ne (by decide) hmb)) (ldS S₃₆ (setV_ne (by decide) setV_eq) (addI fun _ _ => ldS S₃₆ (setV_ne (by decide) (setV_ne (by decide) hmr)) (modI (by omega) fun t₃₇ k₃₇ => sto S₃₆ fun h₃₇ k₃₇ S₃₇ => ?_)))))))
      have eb : (((j * b % (n + 1) : Nat) : Int) + (b : Int)).fmod ((n + 1 : Nat) : Int) = (((j + 1) * b % (n + 1) : Nat) : Int) := by
        rw [show ((j * b % (n + 1) : Nat) : Int) + (b : Int) = ((j * b % (n + 1) + b : Nat) : Int) from by push_cast; rfl, fmod_cast, Nat.mod_add_mod, Nat.add_mul, Nat.one_mul]
      rw [eb] at S₃₇
      have eix : (lead + ((j + 1) * a : Nat) - lead).fmod ((n + 1 : Nat) : Int) = (((j + 1) * a % (n + 1) : Nat) : Int) := by
        rw [show lead + ((j + 1) * a : Nat) - lead = (((j + 1) * a : Nat) : Int) from by omega, fmod_cast]
      refine wpAny_execs_cons (wpAny_Assign_Subscript (ldS S₃₇ setV_eq (ldS S₃₇ (setV_ne (by decide) (setV_ne (by decide) (setV_ne (by decide) hmd))) (wpAny_BinOp (wpAny_BinOp (ldS S₃₇ (setV_ne (by decide) setV_eq) (ldS S₃₇ (setV_ne (by decide) (setV_ne (by decide) (setV_ne (by decide) hml))) (subI fun _ _ => ldS S₃₇ (setV_ne (by decide) (setV_ne (by decide) (setV_ne (by decide) hmr))) (modI (by omega) fun _ _ => ?_)))))))))
      rw [eix]
      have hvl : vs.length = n + 1 := by rw [hN.1, wTo_len]
      refine setL (i := 0) S₃₇.first rfl (by rw [hvl]; exact Nat.mod_lt _ (Nat.succ_pos n)) (by omega) fun h₃₈ S₃₈ => wpAny_execs_nil ?_
      have S₃₉ := St.last S₃₈
      refine ⟨n + 1 - (j + 1), by omega, B2, ex, l2, a2, Lg2, gi2, j + 1, h₃₈, g₃₄, _, _, own1', own2', gs1', gs2', _, nD, rfl, rfl, hlt, rfl, X, hni, hne12, hg2, hgi, S₃₉, ho1'', ho2', ?_, ?_, hgs1', ?_, fun hg => ((hAB hg).turn hG₃₁).other hG₃₄ hgs1' hA₃₄, hN.set _ _ _, ?_, ?_, ?_, ?_, ⟨t₃₆, setV_ne (by decide) setV_eq⟩, ⟨t₃₇, setV_eq⟩⟩
      · intro h0; rw [show n - (j + 1) = i from by omega] at h0 ⊢; exact hgo1''' h0
      · rw [show n - (j + 1) = i from by omega]; exact hgo2' trivial
      · rw [hG₃₄.2 _ (Ne.symm hgi)]; exact hgs2'
      · exact setV_ne (by decide) (setV_ne (by decide) (setV_ne (by decide) hmw))
      · exact setV_ne (by decide) (setV_ne (by decide) (setV_ne (by decide) hmr))
      · exact setV_ne (by decide) (setV_ne (by decide) (setV_ne (by decide) hml))
      · exact setV_ne (by decide) (setV_ne (by decide) (setV_ne (by decide) hmd))
    · obtain rfl : j = n := by omega
      rw [Nat.sub_self] at hgo2
      refine forG_end (own := own2) (rest := own1 ++ [(D, lstO vs nD)]) (S₃₀.perm (List.perm_append_comm_assoc _ _ _)) GB2 (by exact hr.hh) (hr.deeper _).room (hg2.keeps S₃₀.keep) hgs2 hgo2 ho2 hni2 fun h₃₁ k₃₁ g₃₁ S₃₁ hA₃₁ => ?_
      refine wpAny_execs_cons (wpAny_Return_some (ldS S₃₁ hmd ?_))
      have hD := S₃₁.nw (D, lstO vs nD) (List.mem_append_right _ (.head _))
      exact h _ _ _ _ vs (fun x ob e => S₃₁.keep _ _ (X.sub _ _ (hBs _ _ e))) (fun hg => hA₃₁ (hAB hg)) (none_of (fun b ob e => X.sub _ _ (hBs b ob e)) hD.2.2) ⟨_, hD.1, rfl, _, rfl⟩ hN
end
end Mine

namespace Mine
set_option maxRecDepth 100000
/-- a word that names every place once -/
def perm (ws : List Nat) : Bool := ws.all (fun x => decide (x < ws.length)) && decide ws.Nodup
/-- one ring's share of the sum -/
def share (p a b : Nat) : Int := (a : Int) * b * (((p : Int) - 1) * (p - 2) - 4 * inv (wordOf p a b))
def lawOk (p q r : Nat) : Bool :=
  perm (wordOf p q r) && perm (wordOf q r p) && perm (wordOf r p q) &&
  decide (share p q r + share q r p + share r p q = (p : Int) * p + q * q + r * r - 3 * p * q * r)
theorem law_all : ((List.range 8).all fun p => (List.range 9).all fun q => (List.range 12).all fun r => p == 0 || q == 0 || r == 0 || Nat.gcd p q != 1 || Nat.gcd (p * q) r != 1 || lawOk p q r) = true := by decide +kernel
theorem law_num {p q r : Nat} (hp : p < 8) (hq : q < 9) (hr : r < 12) (hp0 : 0 < p) (hq0 : 0 < q) (hr0 : 0 < r) (h1 : Nat.gcd p q = 1) (h2 : Nat.gcd (p * q) r = 1) : lawOk p q r = true := by
  have h := List.all_eq_true.mp (List.all_eq_true.mp (List.all_eq_true.mp law_all p (List.mem_range.mpr hp)) q (List.mem_range.mpr hq)) r (List.mem_range.mpr hr)
  rw [h1, h2] at h
  have e1 : (p == 0) = false := by simpa using Nat.ne_of_gt hp0
  have e2 : (q == 0) = false := by simpa using Nat.ne_of_gt hq0
  have e3 : (r == 0) = false := by simpa using Nat.ne_of_gt hr0
  simpa [e1, e2, e3] using h
end Mine

namespace Mine
set_option maxRecDepth 100000
section
variable {w : World} {prog : Program} {mg mb : Str → Option Value} {A : Around} {E : Value → Shared → Prop} {h : Heap} {g : Array GenState} {d : Drawn} {tk : Nat} {o : OsState} {env : Env}
variable {B : Heap} {L : Addr} {m : Str → Option Value} {news : List (Addr × Obj)}
theorem arg4 {pos : Pos} {e₁ e₂ e₃ e₄ : Expr} {s : Shared} {Q : List Value → Shared → Prop} (hQ : wpAny (model prog w) A (eval e₁ env) (fun v₁ s₁ => wpAny (model prog w) A (eval e₂ env) (fun v₂ s₂ => wpAny (model prog w) A (eval e₃ env) (fun v₃ s₃ => wpAny (model prog w) A (eval e₄ env) (fun v₄ s₄ => Q [v₁, v₂, v₃, v₄] s₄) E s₃) E s₂) E s₁) E s)
    (h1 : starEach [e₁, e₂, e₃, e₄] env = (false, eval e₁ env) :: starEach [e₂, e₃, e₄] env := by rfl) (h2 : starEach [e₂, e₃, e₄] env = (false, eval e₂ env) :: starEach [e₃, e₄] env := by rfl)
    (h3 : starEach [e₃, e₄] env = [(false, eval e₃ env), (false, eval e₄ env)] := by rfl) (h4 : starEach [e₄] env = [(false, eval e₄ env)] := by rfl) :
    wpAny (model prog w) A (spliced (backTo pos (starEach [e₁, e₂, e₃, e₄] env))) Q E s :=
  args_cons (wpAny_mono hQ (fun _ _ hq => args_cons (wpAny_mono hq (fun _ _ hq' => arg2 hq' h3 h4) fun _ _ x => x) h2) fun _ _ x => x) h1
/-- sum of a list of whole numbers -/
theorem sumL {l : Addr} {xs : List (Int × Tok)} {Q : Value → Shared → Prop} (hh : A.handled = none) (S : St B L h m news) (hl : h.IsList l (xs.map fun p => Value.int p.1 p.2).toArray)
    (hQ : ∀ t h' tk', (∀ b ob, h.get? b = some ob → h'.get? b = some ob) → St B L h' m news → Q (.int (xs.map (·.1)).sum t) ⟨h', g, d, tk', o⟩) :
    wpAny (model prog w) A (call (.builtin "sum") [.ref l]) Q E ⟨h, g, d, tk, o⟩ := by
  have hl' : h.IsList l (intItems xs.toArray) := by
    rw [show intItems xs.toArray = (xs.map fun p => Value.int p.1 p.2).toArray from by simp [intItems]]; exact hl
  refine sum_intListG (s := ⟨h, g, d, tk, o⟩) hh hl' fun h' tk' t' hk => ?_
  have := hQ t' h' tk' hk (S.keeps hk)
  rw [preSum_eq, List.take_of_length_le (by simp)]
  exact this
/-- l[:j] of a list -/
theorem slL {value slice : Expr} {l : Addr} {vs : List Value} {j : Nat} {t : Tok} {Q : Value → Shared → Prop} (S : St B L h m news) (hl : h.IsList l vs.toArray) (hz : vs.length ≤ 10000)
    (hQ : ∀ D h', St B L h' m ((D, { cls := .type "list", data := .seq (vs.take j).toArray }) :: news) → Q (.ref D) ⟨h', g, d, tk, o⟩)
    (hs : subscripted slice false (.ref l) (.ref h.objs.size) = operate [.ref h.objs.size, .ref l] (getItem (.ref l) (.ref h.objs.size)) := by with_unfolding_all rfl)
    (ht : ∀ r, letTemporaryGo value (.ref l) r = pure () := by intro _; with_unfolding_all rfl) :
    wpAny (model prog w) A (subscriptTail value slice (.ref l) (.ref h.objs.size)) Q E ⟨h.push { cls := .type "slice", data := .fields #[.none, .int j t, .none] }, g, d, tk, o⟩ := by
  refine slice_listK (s := ⟨h, g, d, tk, o⟩) hl .none (.int _ _) ?_ hs ht (by rw [List.size_toArray, sizeLine_eq]; omega)
  have := hQ _ _ (((S.push { cls := .type "slice", data := .fields #[.none, .int j t, .none] }).sub (List.sublist_cons_self _ _)).push { cls := .type "list", data := .seq (vs.take j).toArray })
  rw [slicePick_upto']
  rw [Heap.size_push] at this
  exact this
/-- l[i:] of a list -/
theorem slLF {value slice : Expr} {l : Addr} {vs : List Value} {j : Nat} {t : Tok} {Q : Value → Shared → Prop} (S : St B L h m news) (hl : h.IsList l vs.toArray) (hz : vs.length ≤ 10000)
    (hQ : ∀ D h', St B L h' m ((D, { cls := .type "list", data := .seq (vs.drop j).toArray }) :: news) → Q (.ref D) ⟨h', g, d, tk, o⟩)
    (hs : subscripted slice false (.ref l) (.ref h.objs.size) = operate [.ref h.objs.size, .ref l] (getItem (.ref l) (.ref h.objs.size)) := by with_unfolding_all rfl)
    (ht : ∀ r, letTemporaryGo value (.ref l) r = pure () := by intro _; with_unfolding_all rfl) :
    wpAny (model prog w) A (subscriptTail value slice (.ref l) (.ref h.objs.size)) Q E ⟨h.push { cls := .type "slice", data := .fields #[.int j t, .none, .none] }, g, d, tk, o⟩ := by
  refine slice_listK (s := ⟨h, g, d, tk, o⟩) hl (.int _ _) .none ?_ hs ht (by rw [List.size_toArray, sizeLine_eq]; omega)
  have := hQ _ _ (((S.push { cls := .type "slice", data := .fields #[.int j t, .none, .none] }).sub (List.sublist_cons_self _ _)).push { cls := .type "list", data := .seq (vs.drop j).toArray })
  rw [slicePick_from']
  rw [Heap.size_push] at this
  exact this
end
section
variable {w : World} {prog : Program} {A : Around} {d : Drawn} {o : OsState} {env : Env} {Q : Flow → Shared → Prop}
/-- for x in range(n), the turns may wake generators -/
def TurnG (L : Addr) (d : Drawn) (o : OsState) (Q : Flow → Shared → Prop) (it : Addr × Obj) (J : Heap → (Str → Option Value) → List (Addr × Obj) → Array GenState → Prop) (f : Flow) (s' : Shared) : Prop :=
  match f with
  | .next | .cont => ∃ B' h' m' news' g' tk', s' = ⟨h', g', d, tk', o⟩ ∧ St B' L h' m' (it :: news') ∧ J B' m' news' g'
  | .brk => Q .next s'
  | .ret v => Q (.ret v) s'
theorem for_rangeG {x : Str} {px pos : Pos} {iter : Expr} {body : List Stmt} {hs₀ : Heap} {g₀ : Array GenState} {ks₀ : Nat} (n : Nat) (J : Nat → Heap → (Str → Option Value) → List (Addr × Obj) → Array GenState → Prop)
    (hh : A.handled = none) (hn : n < 1000)
    (start : wpAny (model prog w) A (eval iter env) (fun xv s₁ => ∃ B h m news g r t u v tk, s₁ = ⟨h, g, d, tk, o⟩ ∧ xv = .ref r ∧ IsRange h r 0 n 1 t u v ∧ St B env.locals h m news ∧ J 0 B m news g) NoE ⟨hs₀, g₀, d, ks₀, o⟩)
    (turn : ∀ i B h m news g tk it oi t, i < n → J i B m news g → St B env.locals h (setV x (.int (i : Nat) t) m) ((it, oi) :: news) →
      wpAny (model prog w) A (execs body env) (TurnG env.locals d o Q (it, oi) (J (i + 1))) NoE ⟨h, g, d, tk, o⟩)
    (done : ∀ B h m news g tk, J n B m news g → St B env.locals h m news → Q .next ⟨h, g, d, tk, o⟩)
    (hl : env.kindOf x = some .local := by rfl) (hp : (env.scope.kind == .class || (env.scope.kind == .module && env.locals != env.globals)) = false := by rfl)
    (hs : ∀ y, foldedSetIterable iter env y = pure y := by intro _; rfl) :
    wpAny (model prog w) A (exec (.For (.Name x px) iter body [] pos) env) Q NoE ⟨hs₀, g₀, d, ks₀, o⟩ := by
  refine for_S (fun it k s' => ∃ I i B h m news g tk, it = .ref I ∧ k = n - i ∧ i ≤ n ∧ s' = ⟨h, g, d, tk, o⟩ ∧ J i B m news g ∧
    St B env.locals h m ((I, { cls := .type "range_iterator", data := .fields #[rawInt (i : Nat), rawInt ((n : Int) - (i : Nat)), rawInt 1] }) :: news)) ?_ ?_ hs (fun _ _ => rfl)
  · refine wpAny_mono start (fun xv s₁ hx => ?_) fun _ _ x => x
    obtain ⟨B, h, m, news, g, r, t, u, v, tk, rfl, rfl, hr, S, hJ⟩ := hx
    have hsz : Builtin.Range.rangeSize 0 (n : Int) 1 = n := by unfold Builtin.Range.rangeSize; simp; omega
    refine wpAny_pyIter_range hr ?_ ⟨n, _, 0, B, _, m, news, g, _, rfl, by simp, Nat.zero_le _, rfl, hJ, ?_⟩
    · have hf : ∀ z : Int, -2000 < z → z < 2000 → Builtin.Range.rangeFitsLong z = true := fun z h1 h2 => by
        simp only [Builtin.Range.rangeFitsLong]; simp; omega
      simp only [Builtin.Range.small, hsz, hf 0 (by omega) (by omega), hf n (by omega) (by omega), hf 1 (by omega) (by omega), Bool.and_true, Bool.true_and]
      have h3 := hf n (by omega) (by omega)
      simp [h3]
    · have := S.push { cls := .type "range_iterator", data := .fields #[rawInt 0, rawInt (Builtin.Range.rangeSize 0 (n : Int) 1), rawInt 1] }
      rw [hsz] at this
      rw [hsz]
      simpa using this
  · rintro it k s' ⟨I, i, B, h, m, news, g, tk, rfl, rfl, hi, rfl, hJ, S⟩
    have hit := S.get (.head _)
    by_cases hlt : i < n
    · refine wpAny_pyNext_range_item hit (by omega) fun h₁ hit₁ hs₁ => ?_
      have S₁ := S.upd 0 rfl hs₁ hit₁
      refine wpAny_assign_Name (sto S₁ (fun h₂ tk₂ S₂ => ?_) hl hp)
      refine wpAny_mono (turn i B h₂ m news g tk₂ I _ tk hlt hJ S₂) (fun f s₃ hf => ?_) fun _ _ x => x
      have key : (∃ B' h' m' news' g' tk', s₃ = ⟨h', g', d, tk', o⟩ ∧ St B' env.locals h' m' ((I, { cls := .type "range_iterator", dict := none, data := .fields #[rawInt ((i : Nat) + 1), rawInt ((n : Int) - (i : Nat) - 1), rawInt 1], slots := #[] }) :: news') ∧ J (i + 1) B' m' news' g') →
          ∃ k', k' < n - i ∧ ∃ I' i' B h m news g tk, Value.ref I = .ref I' ∧ k' = n - i' ∧ i' ≤ n ∧ s₃ = ⟨h, g, d, tk, o⟩ ∧ J i' B m news g ∧
            St B env.locals h m ((I', { cls := .type "range_iterator", data := .fields #[rawInt (i' : Nat), rawInt ((n : Int) - (i' : Nat)), rawInt 1] }) :: news) := by
        rintro ⟨B', h', m', news', g', tk', e, S', hJ'⟩
        refine ⟨n - (i + 1), by omega, I, i + 1, B', h', m', news', g', tk', rfl, rfl, hlt, e, hJ', ?_⟩
        have e1 : ((i + 1 : Nat) : Int) = (i : Int) + 1 := by push_cast; rfl
        have e2 : (n : Int) - ((i + 1 : Nat) : Int) = (n : Int) - (i : Nat) - 1 := by push_cast; omega
        rw [e2, e1]; exact S'
      cases f with
      | next => exact key hf
      | cont => exact key hf
      | brk => exact hf
      | ret v => exact hf
    · have hin : i = n := by omega
      subst hin
      refine wpAny_pyNext_range_end hh hit (by omega) fun h₁ he₁ => ?_
      exact done B h₁ m news g tk hJ (S.drop0 he₁)
end
/-- the three shares -/
def nth3 (p q r k : Nat) : Nat := [p, q, r].getD k 0
def shareK (p q r k : Nat) : Int := share (nth3 p q r k) (nth3 p q r ((k + 1) % 3)) (nth3 p q r ((k + 2) % 3))
def tog (p q r : Nat) : Nat → Int
  | 0 => 0
  | k + 1 => tog p q r k + shareK p q r k
theorem tog3 (p q r : Nat) : tog p q r 3 = share p q r + share q r p + share r p q := by
  show ((0 + share p q r) + share q r p) + share r p q = _
  rw [Int.zero_add]
/-- the ways the numbers grow -/
theorem grow_q_all : ((List.range 8).all fun p => (List.range 9).all fun x => p == 0 || (x == 8 && p != 7) || decide (Nat.gcd p x ≤ 1) || (decide (x + 1 < 9) && (x + 1 != 8 || p == 7))) = true := by decide +kernel
theorem grow_q {p x : Nat} (hp : p < 8) (hx : x < 9) (hp0 : 0 < p) (h8 : x = 8 → p = 7) (hg : 1 < Nat.gcd p x) : x + 1 < 9 ∧ (x + 1 = 8 → p = 7) := by
  have h := List.all_eq_true.mp (List.all_eq_true.mp grow_q_all p (List.mem_range.mpr hp)) x (List.mem_range.mpr hx)
  have e1 : (p == 0) = false := by simpa using Nat.ne_of_gt hp0
  have e2 : (x == 8 && p != 7) = false := by
    by_cases h : x = 8
    · simp [h, h8 h]
    · simp [h]
  have e3 : decide (Nat.gcd p x ≤ 1) = false := decide_eq_false (by omega)
  rw [e1, e2, e3, Bool.false_or, Bool.false_or, Bool.false_or, Bool.and_eq_true, decide_eq_true_iff] at h
  refine ⟨h.1, fun e => ?_⟩
  have h2 := h.2
  rw [e] at h2
  simpa using h2
theorem grow_r_all : ((List.range 8).all fun p => (List.range 9).all fun x => p == 0 || x == 0 || decide (Nat.gcd (p * x) 11 ≤ 1)) = true := by decide +kernel
theorem grow_r {p x r : Nat} (hp : p < 8) (hx : x < 9) (hr : r < 12) (hp0 : 0 < p) (hx0 : 0 < x) (hg : 1 < Nat.gcd (p * x) r) : r + 1 < 12 := by
  have h := List.all_eq_true.mp (List.all_eq_true.mp grow_r_all p (List.mem_range.mpr hp)) x (List.mem_range.mpr hx)
  have e1 : (p == 0) = false := by simpa using Nat.ne_of_gt hp0
  have e2 : (x == 0) = false := by simpa using Nat.ne_of_gt hx0
  rw [e1, e2, Bool.false_or, Bool.false_or, decide_eq_true_iff] at h
  by_cases e : r = 11
  · subst e; omega
  · omega
end Mine

namespace Mine
set_option maxRecDepth 100000
section
variable {w : World}
theorem nsB_sum : nsIn (KF w) mainGlobals (q "sum") = some none := by kernel_rfl
theorem ns_gcd : nsIn (KF w) mainGlobals (q "_law_gcd") = some (some (.ref 86)) := by kernel_rfl
theorem kp_gcd : keepIn (KF w) (.ref 86) = true := by kernel_rfl
theorem ns_word : nsIn (KF w) mainGlobals (q "_law_word") = some (some (.ref 93)) := by kernel_rfl
theorem kp_word : keepIn (KF w) (.ref 93) = true := by kernel_rfl
theorem ns_mail : nsIn (KF w) mainGlobals (q "_law_by_mail") = some (some (.ref 100)) := by kernel_rfl
theorem kp_mail : keepIn (KF w) (.ref 100) = true := by kernel_rfl
theorem ns_ftp : nsIn (KF w) mainGlobals (q "_law_by_ftp") = some (some (.ref 107)) := by kernel_rfl
theorem kp_ftp : keepIn (KF w) (.ref 107) = true := by kernel_rfl
theorem ns_locale : nsIn (KF w) mainGlobals (q "_law_by_locale") = some (some (.ref 112)) := by kernel_rfl
theorem kp_locale : keepIn (KF w) (.ref 112) = true := by kernel_rfl
end
theorem ints_get {vs : List Value} {xs : List Int} (h : IntsAre vs xs) : ∀ v ∈ vs, ∃ (x : Int) (t : Tok), v = .int x t := by
  induction h with
  | nil => intro v hv; cases hv
  | cons n t _ ih =>
    intro v hv
    rcases List.mem_cons.mp hv with rfl | hv
    · exact ⟨n, t, rfl⟩
    · exact ih v hv
section
variable {w : World} {prog : Program} {A : Around} {E : Value → Shared → Prop} {h : Heap} {g : Array GenState} {d : Drawn} {tk : Nat} {o : OsState}
theorem addLI {B : Heap} {L : Addr} {m : Str → Option Value} {news : List (Addr × Obj)} {l b : Addr} {vs ws : List Value} {Q : Value → Shared → Prop} (S : St B L h m news) (hl : h.IsList l vs.toArray) (hb : h.IsList b ws.toArray) (hz : vs.length + ws.length < 10000)
    (hQ : ∀ D h', St B L h' m ((D, { cls := .type "list", data := .seq (vs ++ ws).toArray }) :: news) → Q (.ref D) ⟨h', g, d, tk, o⟩) :
    wpAny (model prog w) A (binaryOp .Add (.ref l) (.ref b)) Q E ⟨h, g, d, tk, o⟩ := by
  obtain ⟨⟨cls, dd, data, sl⟩, ho, hc, n, hd⟩ := id hl
  obtain ⟨⟨cls2, dd2, data2, sl2⟩, ho2, hc2, n2, hd2⟩ := id hb
  simp only at hc hd hc2 hd2
  subst hc hd hc2 hd2
  have e : vs.toArray ++ ws.toArray = (vs ++ ws).toArray := by simp
  refine concat_meets ⟨_, ho, rfl⟩ ⟨_, ho2, rfl⟩ noFill_list_add seq_list_add PySem.F.slot_list_add PySem.F.entry_list_add (PySem.F.args_list_add_2 _ _) (list_addW l b vs.toArray ws.toArray n n2 dd dd2 sl sl2 (by rw [List.size_toArray, List.size_toArray, sizeLine_eq]; omega)) ⟨ho, ho2, ?_⟩
  rw [e]
  exact hQ _ _ (S.push _)
end
theorem Rm.less {k : Nat} {A : Around} (r : Rm (k + 1) A) : Rm k A := ⟨r.hh, by have := r.dp; omega, by have := r.un; omega⟩
abbrev million (v y : Value) : Prop := ∃ (x : Int) (t t' : Tok), v = .int x t ∧ y = .int (x.fmod 1000000) t'
theorem nat_of {x : Int} : ∃ a : Nat, x.fmod 1000000 = (a : Int) := ⟨(x.fmod 1000000).toNat, by
  have : 0 ≤ x.fmod 1000000 := Int.fmod_nonneg_of_pos x (by decide)
  omega⟩
theorem paired_nil {α β : Type} {F : α → β → Prop} {l : List β} (h : Paired F [] l) : l = [] := by cases h; rfl
theorem paired_cons {α β : Type} {F : α → β → Prop} {a : α} {r : List α} {l : List β} (h : Paired F (a :: r) l) : ∃ b t, l = b :: t ∧ F a b ∧ Paired F r t := by cases h; exact ⟨_, _, rfl, ‹_›, ‹_›⟩
theorem drawn3 {vs ys : List Value} (h : Paired million (vs.take 3) ys) (t4 t6 t5 : Tok) : ys.length ≤ 3 ∧
    ∃ (a b c : Nat) (ta tb tc : Tok), ys ++ [Value.int 4 t4, .int 6 t6, .int 5 t5].drop ys.length = [Value.int (a : Nat) ta, .int (b : Nat) tb, .int (c : Nat) tc] := by
  match vs with
  | [] =>
    obtain rfl := paired_nil h
    exact ⟨by decide, 4, 6, 5, t4, t6, t5, rfl⟩
  | [v] =>
    obtain ⟨y, r, rfl, ⟨x, _, t', _, rfl⟩, h1⟩ := paired_cons h
    obtain rfl := paired_nil h1
    obtain ⟨a, ha⟩ := nat_of (x := x)
    exact ⟨by simp, a, 6, 5, t', t6, t5, by rw [ha]; rfl⟩
  | [v, v2] =>
    obtain ⟨y, r, rfl, ⟨x, _, t', _, rfl⟩, h1⟩ := paired_cons h
    obtain ⟨y2, r2, rfl, ⟨x2, _, t2', _, rfl⟩, h2⟩ := paired_cons h1
    obtain rfl := paired_nil h2
    obtain ⟨a, ha⟩ := nat_of (x := x)
    obtain ⟨b, hb⟩ := nat_of (x := x2)
    exact ⟨by simp, a, b, 5, t', t2', t5, by rw [ha, hb]; rfl⟩
  | v :: v2 :: v3 :: r₀ =>
    obtain ⟨y, r, rfl, ⟨x, _, t', _, rfl⟩, h1⟩ := paired_cons h
    obtain ⟨y2, r2, rfl, ⟨x2, _, t2', _, rfl⟩, h2⟩ := paired_cons h1
    obtain ⟨y3, r3, rfl, ⟨x3, _, t3', _, rfl⟩, h3⟩ := paired_cons h2
    obtain rfl := paired_nil h3
    obtain ⟨a, ha⟩ := nat_of (x := x)
    obtain ⟨b, hb⟩ := nat_of (x := x2)
    obtain ⟨c, hc⟩ := nat_of (x := x3)
    exact ⟨by simp, a, b, c, t', t2', t3', by rw [ha, hb, hc]; rfl⟩
theorem mulB {a b : Nat} (ha : a ≤ 1000) (hb : b ≤ 1000) : -(2 ^ 40 : Int) < (a : Int) * (b : Int) ∧ (a : Int) * (b : Int) < 2 ^ 40 := by
  have h := Nat.mul_le_mul ha hb
  rw [← Int.natCast_mul]
  omega
theorem nth3_bound {p q r : Nat} (hp : 0 < p ∧ p < 12) (hq : 0 < q ∧ q < 12) (hr : 0 < r ∧ r < 12) : ∀ k, k < 3 → 0 < nth3 p q r k ∧ nth3 p q r k < 12 := by
  intro k hk
  match k, hk with
  | 0, _ => exact hp
  | 1, _ => exact hq
  | 2, _ => exact hr
theorem perm_parts {ws : List Nat} (h : perm ws = true) : (∀ x ∈ ws, x < ws.length) ∧ ws.Nodup := by
  unfold perm at h
  rw [Bool.and_eq_true, List.all_eq_true, decide_eq_true_iff] at h
  exact ⟨fun x hx => of_decide_eq_true (h.1 x hx), h.2⟩
theorem law_parts {p q r : Nat} (h : lawOk p q r = true) : (∀ k, k < 3 → perm (wordOf (nth3 p q r k) (nth3 p q r ((k + 1) % 3)) (nth3 p q r ((k + 2) % 3))) = true) ∧
    tog p q r 3 = (p : Int) * p + q * q + r * r - 3 * p * q * r := by
  unfold lawOk at h
  simp only [Bool.and_eq_true, decide_eq_true_iff] at h
  refine ⟨fun k hk => ?_, by rw [tog3]; exact h.2⟩
  match k, hk with
  | 0, _ => exact h.1.1.1
  | 1, _ => exact h.1.1.2
  | 2, _ => exact h.1.2
section
variable {w : World} {prog : Program} {mg mb : Str → Option Value} {A : Around} {s1 : Shared} {R : Result → Shared → Prop}
set_option maxHeartbeats 16000000 in
theorem law_call (G : Gd w mg mb s1.heap) (hrC : Rm 3 A) (hfr : A.frames = some []) (hgens : s1.gens = #[]) {l : Addr} {vs : List Value} {xs : List Int} (hLi : s1.heap.IsList l vs.toArray) (hI : IntsAre vs xs) (hlen63 : vs.length ≤ 63)
    (hend : ∀ h' g' tk, (∀ b o, s1.heap.get? b = some o → h'.get? b = some o) → AllBare g' → R (.ok (.ret (.bool true))) { s1 with heap := h', gens := g', toks := tk }) :
    codeAny (model prog w) A (.call (.ref 117) ⟨[.ref l], []⟩) R s1 := by
  refine call_def (f := 117) G hrC.room rfl ?c ?b ?l (fun h₁ tk S₁ => ?_) rfl rfl rfl ?x
  case c => kernel_rfl
  case b => rfl
  case l => rfl
  case x => rfl
  -- drawn, as far as the script goes
  refine wpAny_execs_cons (wpAny_Assign_ListComp_map (fun _ => true) million rfl (by exact hrC.hh) (by decide) (by decide) rfl (by decide) rfl rfl rfl (Subscript_ (ldS S₁ rfl (wpAny_Slice (evalPart_none_step (evalPart_some_step (cInt fun t₂ k₂ => evalPart_none_step (slL (j := 3) S₁ (hLi.at (S₁.keep _)) ?len fun D₀ h₂ S₂ => ?_))))))))
  case len => exact Nat.le_trans hlen63 (by decide)
  refine ⟨D₀, _, _, rfl, ⟨_, S₂.get (.head _), rfl, _, rfl⟩, ?sz, S₂.ns, fun C v s₂ m₂ E' _ _ _ _ => wpAny_pure ⟨rfl, s₂.heap, s₂.toks, rfl, fun _ _ e => e⟩, fun C v s₂ m₂ E' hv _ hns hm hk => ?elt, fun D h₃ k₃ ys hDn hys hF hns hk => ?_⟩
  case sz => rw [List.size_toArray, sizeLine_eq]; simp; omega
  case elt =>
    obtain ⟨hh, g, d, k, o⟩ := s₂
    obtain ⟨x, t, rfl⟩ := ints_get hI v (List.mem_of_mem_take (by simpa using hv))
    exact wpAny_BinOp (ldLoc hns hm (cInt fun _ _ => modI (by decide) fun t' _ => ⟨⟨x, t, t', rfl, rfl⟩, _, _, rfl, fun _ _ e => e⟩))
  rw [List.filter_eq_self.mpr (fun _ _ => rfl)] at hF
  have S₃ : St s1.heap _ h₃ (setV (q "drawn") (.ref D) _) [] := ⟨hns, fun b o e => hk b o (fun e' => by have h0 : s1.heap.get? b = none := by { rw [e']; exact S₂.out }; rw [h0] at e; cases e) (S₂.keep b o e), S₂.out, fun _ hp => (nomatch hp), .nil⟩
  obtain ⟨hy3, hlist⟩ := id (⟨(drawn3 hF default default default).1, fun t4 t6 t5 => (drawn3 hF t4 t6 t5).2⟩ : ys.toList.length ≤ 3 ∧ ∀ t4 t6 t5, _)
  obtain ⟨B₁, S₃', hB₁, hin₁⟩ := S₃.live
  have hys' : B₁.IsList D ys.toList.toArray := by
    obtain ⟨ob, ho, hc, n, hd⟩ := hys
    exact ⟨ob, hin₁ _ _ _ _ ho hd, hc, n, by simpa using hd⟩
  clear hin₁ S₃ S₂ S₁ hys hk hns hF
  have G₁ : Gd w _ _ B₁ := G.keeps hB₁
  show wpAny _ _ (execs _ _) _ _ _
  -- drawn, filled up to three
  refine wpAny_execs_cons (assignN (wpAny_BinOp (ldS S₃' setV_eq (Subscript_ (lstD (wpAny_items_cons (cInt fun t4 _ => wpAny_items_cons (cInt fun t6 _ => wpAny_items_cons (cInt fun t5 _ => wpAny_items_nil ⟨_, _, _, _, S₃', Nat.le_trans (by decide : 3 ≤ 4) four_fits, fun D₄ h₄ S₄ _ => ?_⟩)))))))))
  refine wpAny_Slice (evalPart_some_step (lenL (S₄.good G₁) (ldS S₄ setV_eq ⟨D, _, rfl, hys'.at (S₄.keep D), by rw [List.size_toArray]; omega, fun t₅ k₅ => evalPart_none_step (evalPart_none_step (kba_turn (value' := PySem.Expr.Name (PySem.Str.ofString "_") ⟨0, 0, 0, 0⟩) (fun _ => rfl) (slLF S₄ ⟨_, S₄.get (.head _), rfl, _, rfl⟩ (by simp) fun D₅ h₅ S₅ => ?_)))⟩)))
  refine addLI S₅ (hys'.at (S₅.keep D)) ⟨_, S₅.get (.head _), rfl, _, rfl⟩ (by simp only [List.length_drop, List.length_cons, List.length_nil]; omega) fun D₆ h₆ S₆ => ?_
  obtain ⟨a, b, c, ta, tb, tc, habc⟩ := hlist t4 t6 t5
  obtain ⟨B₂, S₆', hB₂, hin₂, _⟩ := (S₆.sub (List.nil_sublist _)).freeze
  have hD₆ : B₂.IsList D₆ [Value.int (a : Nat) ta, .int (b : Nat) tb, .int (c : Nat) tc].toArray :=
    ⟨_, hin₂ _ _ (S₆.get (.head _)) (S₆.nw _ (.head _)).2.1 (fun hm => nomatch hm), rfl, 0, by rw [← habc]; simp⟩
  have hB₂' : ∀ b o, s1.heap.get? b = some o → B₂.get? b = some o := fun b o e => hB₂ _ _ (hB₁ _ _ e)
  have G₂ : Gd w _ _ B₂ := G.keeps hB₂'
  clear hin₂ hB₂ S₆ S₅ S₄ hys' hB₁ G₁ S₃' hlist
  refine sto S₆' fun h₇ k₇ S₇ => ?_
  -- the three numbers' first tries
  refine wpAny_execs_cons (assignN (wpAny_BinOp (cInt fun _ _ => wpAny_BinOp (Subscript_ (ldS S₇ setV_eq (cInt fun _ _ => item_listL (hD₆.at (S₇.keep D₆)) (by omega) (by omega) rfl (cInt fun _ _ => modI (by decide) fun _ _ => addI fun tp _ => ?_)))))))
  rw [show (1 : Int) + ((a : Nat) : Int).fmod 7 = ((1 + a % 7 : Nat) : Int) from by rw [show ((a : Nat) : Int).fmod 7 = ((a % 7 : Nat) : Int) from fmod_cast a 7]; omega]
  refine sto S₇ fun h₈ k₈ S₈ => ?_
  refine wpAny_execs_cons (assignN (wpAny_BinOp (cInt fun _ _ => wpAny_BinOp (Subscript_ (ldS S₈ (setV_ne (by decide) setV_eq) (cInt fun _ _ => item_listL (hD₆.at (S₈.keep D₆)) (by omega) (by omega) rfl (cInt fun _ _ => modI (by decide) fun _ _ => addI fun tq _ => ?_)))))))
  rw [show (1 : Int) + ((b : Nat) : Int).fmod 7 = ((1 + b % 7 : Nat) : Int) from by rw [show ((b : Nat) : Int).fmod 7 = ((b % 7 : Nat) : Int) from fmod_cast b 7]; omega]
  refine sto S₈ fun h₉ k₉ S₉ => ?_
  obtain ⟨p, hp⟩ : ∃ p, 1 + a % 7 = p := ⟨_, rfl⟩
  have hp0 : 0 < p := by omega
  have hp8 : p < 8 := by have := Nat.mod_lt a (by decide : 7 > 0); omega
  rw [hp] at S₉
  -- q grows
  refine wpAny_execs_cons (wpAny_mono (while_S (Q := fun f s' => f = .next ∧ ∃ h k m x tx, s' = ⟨h, s1.gens, s1.drawn, k, s1.os⟩ ∧ St B₂ s1.heap.objs.size h m [] ∧ m (q "drawn") = some (.ref D₆) ∧ m (q "p") = some (.int (p : Nat) tp) ∧ m (q "q") = some (.int (x : Nat) tx) ∧ 0 < x ∧ x < 9 ∧ Nat.gcd p x = 1)
    (fun n s' => ∃ h k m x tx, s' = ⟨h, s1.gens, s1.drawn, k, s1.os⟩ ∧ St B₂ s1.heap.objs.size h m [] ∧ m (q "drawn") = some (.ref D₆) ∧ m (q "p") = some (.int (p : Nat) tp) ∧ m (q "q") = some (.int (x : Nat) tx) ∧ 0 < x ∧ x < 9 ∧ (x = 8 → p = 7) ∧ n = 9 - x) ?turnq (9 - (1 + b % 7)) ?startq) ?restq fun _ _ x => x)
  case startq =>
    have := Nat.mod_lt b (by decide : 7 > 0)
    exact ⟨h₉, _, _, 1 + b % 7, tq, rfl, S₉, setV_ne (by decide) (setV_ne (by decide) setV_eq), setV_ne (by decide) setV_eq, setV_eq, by omega, by omega, by omega, rfl⟩
  case turnq =>
    rintro n s' ⟨h, k, m, x, tx, rfl, S, hmd, hmp, hmq, hx0, hx9, hx8, rfl⟩
    refine wpAny_isTrue_Compare1 (callF (S.good G₂) ns_gcd kp_gcd (arg2 (ldS S hmp (ldS S hmq ⟨S.good G₂, gcd_call (S.good G₂) (hrC.deeper _).less _ _ _ _ fun h' tk' t hk => cInt fun _ _ => gtI (wpAny_truthy_bool ?_)⟩))))
    by_cases hg : 1 < Nat.gcd p x
    · rw [decide_eq_true (by omega)]
      have hgr := grow_q hp8 hx9 hp0 hx8 hg
      refine wpAny_execs_cons (wpAny_AugAssign_Name (ldnS (S.keeps hk) hmq (cInt fun _ _ => iaddI fun t₁ _ => sto (S.keeps hk) fun h'' k'' S'' => wpAny_execs_nil ?_)))
      exact ⟨9 - (x + 1), by omega, h'', _, _, x + 1, t₁, rfl, S'', setV_ne (by decide) hmd, setV_ne (by decide) hmp, setV_eq.trans (by push_cast; rfl), by omega, hgr.1, hgr.2, rfl⟩
    · rw [decide_eq_false (by omega)]
      have := Nat.gcd_pos_of_pos_left x hp0
      exact ⟨rfl, h', _, m, x, tx, rfl, S.keeps hk, hmd, hmp, hmq, hx0, hx9, by omega⟩
  rintro f s' ⟨rfl, h₁₀, k₁₀, m₁₀, x, tx, rfl, S₁₀, hmd, hmp, hmq, hx0, hx9, hg1⟩
  show wpAny _ _ (execs _ _) _ _ _
  clear S₉ S₈ S₇ S₆'
  refine wpAny_execs_cons (assignN (wpAny_BinOp (cInt fun _ _ => wpAny_BinOp (Subscript_ (ldS S₁₀ hmd (cInt fun _ _ => item_listL (hD₆.at (S₁₀.keep D₆)) (by omega) (by omega) rfl (cInt fun _ _ => modI (by decide) fun _ _ => addI fun tr _ => ?_)))))))
  rw [show (1 : Int) + ((c : Nat) : Int).fmod 7 = ((1 + c % 7 : Nat) : Int) from by rw [show ((c : Nat) : Int).fmod 7 = ((c % 7 : Nat) : Int) from fmod_cast c 7]; omega]
  refine sto S₁₀ fun h₁₁ k₁₁ S₁₁ => ?_
  -- r grows
  refine wpAny_execs_cons (wpAny_mono (while_S (Q := fun f s' => f = .next ∧ ∃ h k m y ty, s' = ⟨h, s1.gens, s1.drawn, k, s1.os⟩ ∧ St B₂ s1.heap.objs.size h m [] ∧ m (q "drawn") = some (.ref D₆) ∧ m (q "p") = some (.int (p : Nat) tp) ∧ m (q "q") = some (.int (x : Nat) tx) ∧ m (q "r") = some (.int (y : Nat) ty) ∧ 0 < y ∧ y < 12 ∧ Nat.gcd (p * x) y = 1)
    (fun n s' => ∃ h k m y ty, s' = ⟨h, s1.gens, s1.drawn, k, s1.os⟩ ∧ St B₂ s1.heap.objs.size h m [] ∧ m (q "drawn") = some (.ref D₆) ∧ m (q "p") = some (.int (p : Nat) tp) ∧ m (q "q") = some (.int (x : Nat) tx) ∧ m (q "r") = some (.int (y : Nat) ty) ∧ 0 < y ∧ y < 12 ∧ n = 12 - y) ?turnr (12 - (1 + c % 7)) ?startr) ?restr fun _ _ x => x)
  case startr =>
    have := Nat.mod_lt c (by decide : 7 > 0)
    exact ⟨h₁₁, _, _, 1 + c % 7, tr, rfl, S₁₁, setV_ne (by decide) hmd, setV_ne (by decide) hmp, setV_ne (by decide) hmq, setV_eq, by omega, by omega, rfl⟩
  case turnr =>
    rintro n s' ⟨h, k, m, y, ty, rfl, S, hmd, hmp, hmq, hmr, hy0, hy12, rfl⟩
    refine wpAny_isTrue_Compare1 (callF (S.good G₂) ns_gcd kp_gcd (arg2 (wpAny_BinOp (ldS S hmp (ldS S hmq (mulI (by omega) (by omega) fun _ _ => ldS S hmr ⟨S.good G₂, ?_⟩))))))
    rw [show ((p : Nat) : Int) * ((x : Nat) : Int) = ((p * x : Nat) : Int) from (Int.natCast_mul p x).symm]
    refine gcd_call (S.good G₂) (hrC.deeper _).less _ _ _ _ fun h' tk' t hk => cInt fun _ _ => gtI (wpAny_truthy_bool ?_)
    by_cases hg : 1 < Nat.gcd (p * x) y
    · rw [decide_eq_true (by omega)]
      have hgr := grow_r hp8 hx9 hy12 hp0 hx0 hg
      refine wpAny_execs_cons (wpAny_AugAssign_Name (ldnS (S.keeps hk) hmr (cInt fun _ _ => iaddI fun t₁ _ => sto (S.keeps hk) fun h'' k'' S'' => wpAny_execs_nil ?_)))
      exact ⟨12 - (y + 1), by omega, h'', _, _, y + 1, t₁, rfl, S'', setV_ne (by decide) hmd, setV_ne (by decide) hmp, setV_ne (by decide) hmq, setV_eq.trans (by push_cast; rfl), by omega, hgr, rfl⟩
    · rw [decide_eq_false (by omega)]
      have := Nat.gcd_pos_of_pos_right (p * x) hy0
      exact ⟨rfl, h', _, m, y, ty, rfl, S.keeps hk, hmd, hmp, hmq, hmr, hy0, hy12, by omega⟩
  rintro f s' ⟨rfl, h₁₂, k₁₂, m₁₂, y, ty, rfl, S₁₂, hmd₂, hmp₂, hmq₂, hmr₂, hy0, hy12, hg2⟩
  show wpAny _ _ (execs _ _) _ _ _
  clear S₁₁ S₁₀ hmd hmp hmq
  have hlaw := law_num hp8 hx9 hy12 hp0 hx0 hy0 hg1 hg2
  refine wpAny_execs_cons (assignN (lstD (wpAny_items_cons (ldS S₁₂ hmp₂ (wpAny_items_cons (ldS S₁₂ hmq₂ (wpAny_items_cons (ldS S₁₂ hmr₂ (wpAny_items_nil ⟨_, _, _, _, S₁₂, Nat.le_trans (by decide : 3 ≤ 4) four_fits, fun Dn h₁₃ S₁₃ _ => ?_⟩)))))))))
  obtain ⟨B₃, S₁₄, hB₃, hin₃, _⟩ := (S₁₃.sub (List.nil_sublist _)).freeze
  have hDn : B₃.IsList Dn [Value.int (p : Nat) tp, .int (x : Nat) tx, .int (y : Nat) ty].toArray := ⟨_, hin₃ _ _ (S₁₃.get (.head _)) (S₁₃.nw _ (.head _)).2.1 (fun hm => nomatch hm), rfl, 0, rfl⟩
  have hD₃ : B₃.IsList D₆ [Value.int (a : Nat) ta, .int (b : Nat) tb, .int (c : Nat) tc].toArray := hD₆.at (hB₃ D₆)
  have hB₃' : ∀ b o, s1.heap.get? b = some o → B₃.get? b = some o := fun b o e => hB₃ _ _ (hB₂' _ _ e)
  clear hin₃ hB₃ S₁₃ S₁₂ hD₆ G₂ hB₂'
  refine sto S₁₄ fun h₁₅ k₁₅ S₁₅ => ?_
  refine wpAny_execs_cons (assignN (cInt fun t₁₆ _ => sto S₁₅ fun h₁₆ k₁₆ S₁₆ => ?_))
  have G₃ : Gd w _ _ B₃ := G.keeps hB₃'
  obtain ⟨hperm, hsum⟩ := law_parts hlaw
  have hnb := nth3_bound (p := p) (q := x) (r := y) ⟨hp0, by omega⟩ ⟨hx0, by omega⟩ ⟨hy0, hy12⟩
  have hNats : NatsAre [Value.int (p : Nat) tp, .int (x : Nat) tx, .int (y : Nat) ty] [p, x, y] := ⟨rfl, fun i z hz => by
    match i, hz with
    | 0, hz => cases hz; exact ⟨_, rfl⟩
    | 1, hz => cases hz; exact ⟨_, rfl⟩
    | 2, hz => cases hz; exact ⟨_, rfl⟩⟩
  have hnum : ∀ k, k < 3 → ∃ t, [Value.int (p : Nat) tp, .int (x : Nat) tx, .int (y : Nat) ty][((k : Nat) : Int).toNat]? = some (Value.int (nth3 p x y k : Nat) t) := fun k hk => by
    rw [Int.toNat_natCast]; exact hNats.at hk
  refine wpAny_execs_cons (for_rangeG 3 (fun i B m news g => (∀ b o, B₃.get? b = some o → B.get? b = some o) ∧ [] = news ∧ AllBare g ∧ m (q "drawn") = some (.ref D₆) ∧ m (q "numbers") = some (.ref Dn) ∧ m (q "p") = some (.int (p : Nat) tp) ∧ m (q "q") = some (.int (x : Nat) tx) ∧ m (q "r") = some (.int (y : Nat) ty) ∧ ∃ t, m (q "together") = some (.int (tog p x y i) t)) hrC.hh (by decide) ?start ?turn ?done)
  case start =>
    refine rngN (S₁₆.good G₃) (cInt fun t k => ⟨_, t, rfl, _, _, _, _, S₁₆, fun r t u v h' tk' S' => ⟨B₃, h', _, [], s1.gens, r, t, u, v, _, rfl, rfl, S'.get (.head _), S'.sub (List.sublist_cons_self _ _), fun _ _ e => e, rfl, AllBare.of_eq hgens, ?_, ?_, ?_, ?_, ?_, t₁₆, setV_eq⟩⟩)
    · exact setV_ne (by decide) (setV_ne (by decide) hmd₂)
    · exact setV_ne (by decide) setV_eq
    · exact setV_ne (by decide) (setV_ne (by decide) hmp₂)
    · exact setV_ne (by decide) (setV_ne (by decide) hmq₂)
    · exact setV_ne (by decide) (setV_ne (by decide) hmr₂)
  case turn =>
    rintro i B h m _ g tk it oi t hi ⟨hB, rfl, hAB, hmd, hmn, hmp, hmq, hmr, tt, hmt⟩ S
    have GB : Gd w _ _ B := G₃.keeps hB
    obtain ⟨t0, ht0⟩ := hnum i hi
    obtain ⟨t1, ht1⟩ := hnum ((i + 1) % 3) (Nat.mod_lt _ (by decide))
    obtain ⟨t2, ht2⟩ := hnum ((i + 2) % 3) (Nat.mod_lt _ (by decide))
    have hb0 := hnb i hi
    have hb1 := hnb ((i + 1) % 3) (Nat.mod_lt _ (by decide))
    have hb2 := hnb ((i + 2) % 3) (Nat.mod_lt _ (by decide))
    have hpm := perm_parts (hperm i hi)
    have hshare : tog p x y (i + 1) = tog p x y i + share (nth3 p x y i) (nth3 p x y ((i + 1) % 3)) (nth3 p x y ((i + 2) % 3)) := rfl
    generalize nth3 p x y i = ring at ht0 hb0 hpm hshare
    generalize nth3 p x y ((i + 1) % 3) = fst at ht1 hb1 hpm hshare
    generalize nth3 p x y ((i + 2) % 3) = snd at ht2 hb2 hpm hshare
    have hln : ∀ {h' : Heap}, (∀ b o, B.get? b = some o → h'.get? b = some o) → h'.IsList Dn [Value.int (p : Nat) tp, .int (x : Nat) tx, .int (y : Nat) ty].toArray := fun hk => hDn.at fun o e => hk _ _ (hB _ _ e)
    have hld : ∀ {h' : Heap}, (∀ b o, B.get? b = some o → h'.get? b = some o) → h'.IsList D₆ [Value.int (a : Nat) ta, .int (b : Nat) tb, .int (c : Nat) tc].toArray := fun hk => hD₃.at fun o e => hk _ _ (hB _ _ e)
    refine wpAny_execs_cons (assignN (Subscript_ (ldS S (setV_ne (by decide) hmn) (ldS S setV_eq (item_listL (hln S.keep) (by omega) (by omega) ht0 (sto S fun h₁ k₁ S₁ => ?_))))))
    refine wpAny_execs_cons (assignN (Subscript_ (ldS S₁ (setV_ne (by decide) (setV_ne (by decide) hmn)) (wpAny_BinOp (wpAny_BinOp (ldS S₁ (setV_ne (by decide) setV_eq) (cInt fun _ _ => addI fun _ _ => cInt fun _ _ => modI (by decide) fun _ _ => ?_)))))))
    rw [show ((i : Nat) : Int) + 1 = ((i + 1 : Nat) : Int) from by omega, show ((i + 1 : Nat) : Int).fmod 3 = (((i + 1) % 3 : Nat) : Int) from fmod_cast _ 3]
    refine item_listL (hln S₁.keep) (by omega) (by omega) ht1 (sto S₁ fun h₂ k₂ S₂ => ?_)
    refine wpAny_execs_cons (assignN (Subscript_ (ldS S₂ (setV_ne (by decide) (setV_ne (by decide) (setV_ne (by decide) hmn))) (wpAny_BinOp (wpAny_BinOp (ldS S₂ (setV_ne (by decide) (setV_ne (by decide) setV_eq)) (cInt fun _ _ => addI fun _ _ => cInt fun _ _ => modI (by decide) fun _ _ => ?_)))))))
    rw [show ((i : Nat) : Int) + 2 = ((i + 2 : Nat) : Int) from by omega, show ((i + 2 : Nat) : Int).fmod 3 = (((i + 2) % 3 : Nat) : Int) from fmod_cast _ 3]
    refine item_listL (hln S₂.keep) (by omega) (by omega) ht2 (sto S₂ fun h₃ k₃ S₃ => ?_)
    -- the word
    refine wpAny_execs_cons (assignN (callF (S₃.good GB) ns_word kp_word (arg4 (ldS S₃ (setV_ne (by decide) (setV_ne (by decide) setV_eq)) (ldS S₃ (setV_ne (by decide) setV_eq) (ldS S₃ setV_eq (wpAny_BinOp (cInt fun _ _ => wpAny_BinOp (callBu (S₃.good GB) nsB_sum boot_sum (by decide) (arg1 (ldS S₃ (setV_ne (by decide) (setV_ne (by decide) (setV_ne (by decide) (setV_ne (by decide) hmd)))) (sumL (xs := [((a : Nat), ta), ((b : Nat), tb), ((c : Nat), tc)]) (by exact hrC.hh) S₃ (hld S₃.keep) fun t₄ h₄ k₄ hk₄ S₄ => cInt fun _ _ => modI (by decide) fun _ _ => addI fun t₅ k₅ => ?_))))))))))))
    refine ⟨S₄.good GB, word_call (S₄.good GB) (hrC.deeper _) hb0.1 (by omega) ⟨hb1.1, by omega⟩ ⟨hb2.1, by omega⟩ ?lead fun h₅ g₅ k₆ D vs hk₅ hA₅ hDn₅ hDl hN => ?_⟩
    case lead =>
      have h1 := Int.fmod_nonneg_of_pos (([((a : Nat), ta), ((b : Nat), tb), ((c : Nat), tc)] : List (Int × Tok)).map (·.1)).sum (by decide : (0 : Int) < 101)
      have h2 := Int.fmod_lt_of_pos (([((a : Nat), ta), ((b : Nat), tb), ((c : Nat), tc)] : List (Int × Tok)).map (·.1)).sum (by decide : (0 : Int) < 101)
      omega
    obtain ⟨B', S₅, hB', hin, _⟩ := (S₄.keeps hk₅).freeze
    have hDB : B'.IsList D vs.toArray := by
      obtain ⟨ob, hob, r⟩ := hDl
      refine ⟨ob, hin _ _ hob (fun e => ?_) (fun hm => ?_), r⟩
      · obtain ⟨_, _, _, ho, _⟩ := S₄.ns; rw [← e] at ho; rw [hDn₅] at ho; cases ho
      · have hi2 := (S₄.nw _ (.head _)).1
        have e : D = it := by simpa using hm
        simp only at hi2
        rw [← e, hDn₅] at hi2; cases hi2
    have GB' : Gd w _ _ B' := GB.keeps hB'
    have hBB' : ∀ b o, B₃.get? b = some o → B'.get? b = some o := fun b o e => hB' _ _ (hB _ _ e)
    refine sto S₅ fun h₆ k₇ S₆ => ?_
    refine wpAny_execs_cons (assignN (wpAny_BinOp (wpAny_BinOp (callBu (S₆.good GB') nsB_sum boot_sum (by decide) (arg1 (ldS S₆ (setV_ne (by decide) (setV_ne (by decide) (setV_ne (by decide) (setV_ne (by decide) (setV_ne (by decide) hmd))))) (sumL (xs := [((a : Nat), ta), ((b : Nat), tb), ((c : Nat), tc)]) (by exact hrC.hh) S₆ (hD₃.at fun o e => S₆.keep _ _ (hBB' _ _ e)) fun t₇ h₇ k₈ hk₇ S₇ => ldS S₇ (setV_ne (by decide) (setV_ne (by decide) (setV_ne (by decide) (setV_ne (by decide) setV_eq)))) (addI fun _ _ => cInt fun _ _ => modI (by decide) fun t₈ k₉ => ?_))))))))
    have hv0 := Int.fmod_nonneg_of_pos ((([((a : Nat), ta), ((b : Nat), tb), ((c : Nat), tc)] : List (Int × Tok)).map (·.1)).sum + (i : Nat)) (by decide : (0 : Int) < 3)
    have hv3 := Int.fmod_lt_of_pos ((([((a : Nat), ta), ((b : Nat), tb), ((c : Nat), tc)] : List (Int × Tok)).map (·.1)).sum + (i : Nat)) (by decide : (0 : Int) < 3)
    generalize ((([((a : Nat), ta), ((b : Nat), tb), ((c : Nat), tc)] : List (Int × Tok)).map (·.1)).sum + (i : Nat)).fmod 3 = hv at hv0 hv3 ⊢
    refine sto S₇ fun h₈ k₁₀ S₈ => ?_
    generalize hm' : setV (q "hand") _ _ = m' at S₈
    have fh : m' (q "hand") = some (.int hv t₈) := by rw [← hm']; exact setV_eq
    have fw : m' (q "word") = some (.ref D) := by rw [← hm']; exact setV_ne (by decide) setV_eq
    have fs : m' (q "second") = some (.int (snd : Nat) t2) := by rw [← hm']; exact setV_ne (by decide) (setV_ne (by decide) setV_eq)
    have ff : m' (q "first") = some (.int (fst : Nat) t1) := by rw [← hm']; exact setV_ne (by decide) (setV_ne (by decide) (setV_ne (by decide) setV_eq))
    have fr : m' (q "ring") = some (.int (ring : Nat) t0) := by rw [← hm']; exact setV_ne (by decide) (setV_ne (by decide) (setV_ne (by decide) (setV_ne (by decide) setV_eq)))
    have old : ∀ {y : Str} {v : Value}, m y = some v → y ≠ q "hand" → y ≠ q "word" → y ≠ q "second" → y ≠ q "first" → y ≠ q "ring" → y ≠ q "k" → m' y = some v := fun e h1 h2 h3 h4 h5 h6 => by
      rw [← hm']; exact setV_ne h1 (setV_ne h2 (setV_ne h3 (setV_ne h4 (setV_ne h5 (setV_ne h6 e)))))
    clear hm' S₇ S₆ S₅ S₄ S₃ S₂ S₁ hin
    have hwl : (wordOf ring fst snd).length = ring := wTo_len _ _ _ _
    refine wpAny_execs_cons (wpAny_mono (wpAny_If (Q := fun f s' => f = Flow.next ∧ ∃ h' tk' t, s' = ⟨h', g₅, s1.drawn, tk', s1.os⟩ ∧ St B' s1.heap.objs.size h' (setV (q "parted") (.int (inv (wordOf ring fst snd) : Nat) t) m') [(it, oi)]) (wpAny_isTrue_Compare1 (ldS S₈ fh (cInt fun _ _ => eqI (wpAny_truthy_bool ?ifs))))) ?rest fun _ _ x => x)
    case ifs =>
      by_cases e0 : hv = 0
      · rw [show (hv == 0) = true from by simp [e0]]
        exact wpAny_execs_cons (assignN (callF (S₈.good GB') ns_mail kp_mail (arg1 (ldS S₈ fw ⟨S₈.good GB', mail_call (S₈.good GB') (hrC.deeper _) (hDB.at (S₈.keep D)) hN (by omega) hpm.1 fun h₉ k₁₁ t₉ hk₉ => sto (S₈.keeps hk₉) fun h₁₀ k₁₂ S₁₀ => wpAny_execs_nil ⟨rfl, h₁₀, _, t₉, rfl, S₁₀⟩⟩))))
      · rw [show (hv == 0) = false from by simpa using e0]
        refine wpAny_execs_cons (wpAny_If (wpAny_isTrue_Compare1 (ldS S₈ fh (cInt fun _ _ => eqI (wpAny_truthy_bool ?_)))))
        by_cases e1 : hv = 1
        · rw [show (hv == 1) = true from by simp [e1]]
          obtain ⟨B₀, S₉, hB₀, hin₀, _⟩ := (S₈.sub (List.nil_sublist _)).freeze
          have hit := hin₀ _ _ (S₈.get (.head _)) (S₈.nw _ (.head _)).2.1 (fun hm => nomatch hm)
          obtain ⟨oL, es, ep, hoL, hdL, hsk, hf⟩ := S₈.ns
          refine wpAny_execs_cons (assignN (callF (S₈.good GB') ns_ftp kp_ftp (arg1 (ldS S₈ fw ⟨S₈.good GB', ftp_call (B₀ := B₀) S₉.keep (GB'.keeps hB₀) (hrC.deeper _) (Around.frames_deeper hfr) (show ScopeKind.function ≠ ScopeKind.module by decide) rfl S₉.out hoL (fun vs q => by rw [hdL] at q; cases q) (hDB.at (hB₀ D)) hN (by omega) hpm.1 hpm.2 fun h₉ k₁₁ t₉ sl hk₉ hL₉ => ?_⟩))))
          have S₁₀ : St B' s1.heap.objs.size h₉ m' [(it, oi)] := ⟨⟨slotted oL sl, es, ep, hL₉, hdL, hsk, hf⟩, fun b o e => hk₉ _ _ (hB₀ _ _ e), S₈.out, fun r hr => by
            rw [List.mem_singleton.mp hr]; exact ⟨hk₉ _ _ hit, (S₈.nw _ (.head _)).2⟩, S₈.nd⟩
          exact sto S₁₀ fun h₁₁ k₁₂ S₁₁ => wpAny_execs_nil (wpAny_execs_nil ⟨rfl, h₁₁, _, t₉, rfl, S₁₁⟩)
        · rw [show (hv == 1) = false from by simpa using e1]
          exact wpAny_execs_cons (assignN (callF (S₈.good GB') ns_locale kp_locale (arg1 (ldS S₈ fw ⟨S₈.good GB', locale_call (S₈.good GB') (hrC.deeper _) (hDB.at (S₈.keep D)) hN (by omega) hpm.1 hpm.2 fun h₉ k₁₁ t₉ hk₉ => sto (S₈.keeps hk₉) fun h₁₀ k₁₂ S₁₀ => wpAny_execs_nil (wpAny_execs_nil ⟨rfl, h₁₀, _, t₉, rfl, S₁₀⟩)⟩))))
    case rest =>
      rintro f s' ⟨rfl, h₁₁, k₁₃, tp', rfl, S₁₁⟩
      show wpAny _ _ (execs _ _) _ _ _
      refine wpAny_execs_cons (wpAny_If (wpAny_isTrue_Compare1 (ldS S₁₁ setV_eq (cInt fun _ _ => ltI (wpAny_truthy_bool ?_)))))
      rw [decide_eq_false (by omega)]
      refine wpAny_execs_nil ?_
      have hb3 := mulB (a := fst) (b := snd) (by omega) (by omega)
      have fm := old hmt (by decide) (by decide) (by decide) (by decide) (by decide) (by decide)
      refine wpAny_execs_cons (wpAny_AugAssign_Name (ldnS S₁₁ (setV_ne (by decide) fm) (wpAny_BinOp (wpAny_BinOp (ldS S₁₁ (setV_ne (by decide) ff) (ldS S₁₁ (setV_ne (by decide) fs) (mulI (by omega) (by omega) fun _ _ => wpAny_BinOp (wpAny_BinOp (wpAny_BinOp (ldS S₁₁ (setV_ne (by decide) fr) (cInt fun _ _ => subI fun _ _ => wpAny_BinOp (ldS S₁₁ (setV_ne (by decide) fr) (cInt fun _ _ => subI fun _ _ => ?_)))))))))))))
      refine mulI (by omega) (by omega) fun _ _ => wpAny_BinOp (cInt fun _ _ => ldS S₁₁ setV_eq (mulI (by omega) (by omega) fun _ _ => subI fun _ _ => mulI hb3.1 hb3.2 fun _ _ => iaddI fun t₁₂ _ => sto S₁₁ fun h₁₂ k₁₄ S₁₂ => wpAny_execs_nil ?_))
      refine ⟨B', h₁₂, _, [], g₅, _, rfl, S₁₂, hBB', rfl, hA₅ hAB, ?_, ?_, ?_, ?_, ?_, t₁₂, ?_⟩
      · exact setV_ne (by decide) (setV_ne (by decide) (old hmd (by decide) (by decide) (by decide) (by decide) (by decide) (by decide)))
      · exact setV_ne (by decide) (setV_ne (by decide) (old hmn (by decide) (by decide) (by decide) (by decide) (by decide) (by decide)))
      · exact setV_ne (by decide) (setV_ne (by decide) (old hmp (by decide) (by decide) (by decide) (by decide) (by decide) (by decide)))
      · exact setV_ne (by decide) (setV_ne (by decide) (old hmq (by decide) (by decide) (by decide) (by decide) (by decide) (by decide)))
      · exact setV_ne (by decide) (setV_ne (by decide) (old hmr (by decide) (by decide) (by decide) (by decide) (by decide) (by decide)))
      · rw [setV_eq, hshare]; rfl
  case done =>
    rintro B h m news g tk ⟨hB, rfl, hAB, hmd, hmn, hmp, hmq, hmr, tt, hmt⟩ S
    have hb1 := mulB (a := 3) (b := p) (by omega) (by omega)
    have hb2 := mulB (a := 3 * p) (b := x) (by omega) (by omega)
    rw [Int.natCast_mul] at hb2
    refine wpAny_execs_cons (wpAny_Return_some (wpAny_Compare1 (ldS S hmt (wpAny_BinOp (wpAny_BinOp (wpAny_BinOp (wpAny_BinOp (ldS S hmp (ldS S hmp (mulI (by omega) (by omega) fun _ _ => wpAny_BinOp (ldS S hmq (ldS S hmq (mulI (by omega) (by omega) fun _ _ => addI fun _ _ => wpAny_BinOp (ldS S hmr (ldS S hmr (mulI (by omega) (by omega) fun _ _ => addI fun _ _ => ?_))))))))))))))))
    refine wpAny_BinOp (wpAny_BinOp (wpAny_BinOp (cInt fun _ _ => ldS S hmp (mulI (by omega) (by omega) fun _ _ => ldS S hmq (mulI hb1.1 hb1.2 fun _ _ => ldS S hmr (mulI hb2.1 hb2.2 fun _ _ => subI fun _ _ => eqI ?_))))))
    rw [hsum, beq_self_eq_true]
    exact hend _ _ _ (fun b o e => S.keep _ _ (hB _ _ (hB₃' _ _ e))) hAB
end
end Mine

namespace Mine
set_option maxRecDepth 100000
theorem ns_law {w : World} : nsIn (KF w) mainGlobals (q "law") = some (some (.ref 117)) := by kernel_rfl
set_option maxHeartbeats 8000000 in
theorem whole : PySem.Challenge.rw_xo0004_01.Holds := hd (by
  k_fill
  intro w s₀ s₁ mg mb G Y fa o pm cd doc dV kV ho hd hcd hD hmg hg args vals as hpre hlay hrd hwl hlo
  have KX := kIn_of Y
  refine Ground.open G ?_
  intro T B D TE TW
  wrow_args hpre hlay hrd hwl hlo
  rename IntsAre _ _ => hI
  rename Heap.IsList _ _ _ => hLi
  have TR := topRead_of T
  have hfa : fa = 117 := by
    have h1 := mg_of KX TR.g ns_law
    have h2 : mg (q "law") = some (.ref fa) := hmg
    rw [h1] at h2
    cases h2; rfl
  subst hfa
  have hlen := hI.length
  refine enter_call (law_call ⟨KX, TR⟩ ⟨rfl, by decide, by decide⟩ rfl hg hLi hI (Nat.le_trans (Nat.le_of_eq hlen) (by omega)) fun h' g' tk hk hb => ?_)
  refine ⟨.inl ⟨_, _, [], rfl, fun _ => rfl, ReadsW.bool true, ?post, fun _ => ⟨List.nodup_nil, fun _ hm => nomatch hm⟩⟩, OldK.of_keep hk, rfl, hb⟩
  case post => wrow_post)
end Mine

set_option maxRecDepth 100000 in
set_option maxHeartbeats 8000000 in
theorem PySem.Challenge.cw_xo0004_01_holds : PySem.Challenge.rw_xo0004_01.Holds := by
  exact Mine.whole
