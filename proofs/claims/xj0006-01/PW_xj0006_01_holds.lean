import PyProof.Rows.All
import Wide.All
import OpenK.AllK
import Wide.FinOn
import PyProof.Logic
import Lean
import PySem.Challenge.RW_xj0006_01
set_option Elab.async false
section
/- the part Hd0 -/
open PySem PySem.W PyProof.Rows
set_option Elab.async false
namespace Mine
/- the walks want the fragment hk.heap_1 alone, not the head that open_top proves of it (hx of HdX is the entry's head): so the head's own step is left out, and what is named hk says nothing -/
local macro_rules | `(tactic| o_head $_:term) => `(tactic| (refine (fun (_ : True) h => h) ?hw ?hc))
local macro_rules | `(tactic| w_witness2) => `(tactic| exact trivial)
set_option maxRecDepth 100000 in
set_option maxHeartbeats 8000000 in
open_top hk for PySem.Challenge.rw_xj0006_01.row
end Mine
end
section
/- the part HdX -/
open PySem PySem.W PyProof.Rows PySem.W.X
set_option Elab.async false
namespace Mine
local macro_rules | `(tactic| k_head) => `(tactic| x_head)
set_option maxRecDepth 100000 in
set_option maxHeartbeats 8000000 in
open_top hx for PySem.Challenge.rw_xj0006_01.row
end Mine
end
section
/- the part Kx -/
open PySem PySem.W PyProof.Rows PySem.W.X
set_option Elab.async false
namespace Mine
set_option maxRecDepth 100000
/-- the written part with the built-ins' names, without the one table that the call turns -/
noncomputable def kx (P : Params) : Frag := (hx.heap_1 P).filter (fun p => p.1 != 122)
theorem sub_frag {K K' : Frag} (f : Addr → Bool) (e : K' = K.filter (fun p => f p.1)) {h : Heap} (X : K.In h) : K'.In h := by
  subst e
  intro a o q
  refine X a o ?_
  clear X
  induction K with
  | nil => cases q
  | cons p r ih =>
    obtain ⟨b, o'⟩ := p
    rw [List.lookup_cons]
    rw [List.filter_cons] at q
    cases hb : a == b with
    | true =>
      have : a = b := beq_iff_eq.mp hb
      subst this
      cases hf : f a with
      | true => rw [hf] at q; simp only [if_true] at q; rw [List.lookup_cons, hb] at q; exact q
      | false =>
        rw [hf] at q
        simp only [Bool.false_eq_true, if_false] at q
        exfalso
        have : ∀ l : Frag, (l.filter (fun p => f p.1)).lookup a = none := by
          intro l
          induction l with
          | nil => rfl
          | cons z l ih =>
            rw [List.filter_cons]
            split
            · rename_i hz
              rw [List.lookup_cons]
              have : (a == z.1) = false := by
                rw [beq_eq_false_iff_ne]; rintro rfl; rw [hf] at hz; cases hz
              rw [this]; exact ih
            · exact ih
        rw [this r] at q; cases q
    | false =>
      cases hf : f b with
      | true => rw [hf] at q; simp only [if_true] at q; rw [List.lookup_cons, hb] at q; exact ih q
      | false => rw [hf] at q; simp only [Bool.false_eq_true, if_false] at q; exact ih q
/-- the addresses that the walks read -/
def kAddrs : List Addr := [2, 3, 32, 34, 35, 37, 38, 39, 41, 42, 44, 45, 46, 48, 49, 51, 52, 53, 55, 56, 58, 59, 60, 62, 63, 65, 66, 67,
          69, 70, 72, 73, 74, 77, 82, 83, 84, 86, 87, 89, 90, 91, 93, 94, 96, 97, 98, 99, 101, 102, 104, 105, 106, 107,
          109, 110, 112, 113, 114, 116, 117, 119, 120, 121, 123, 124, 126, 127, 128, 129, 131, 132, 134, 135, 136, 138,
          139, 141, 142, 143, 144, 146, 147, 149, 150, 151, 152, 153, 154, 155, 161, 162, 166, 167, 168, 170, 171, 173,
          174, 175, 178, 179, 180, 183, 184]
theorem hk_of_kx (P : Params) : hk.heap_1 P = (kx P).filter (fun p => kAddrs.contains p.1) := by kernel_rfl
theorem kx_hk {P : Params} {h : Heap} (Y : (kx P).In h) : (hk.heap_1 P).In h := sub_frag _ (hk_of_kx P) Y
end Mine
end
section
/- the part Base -/
open PySem PySem.W PyProof.Rows PySem.Spec PySem.Calls
set_option Elab.async false
namespace Mine
set_option maxRecDepth 100000

abbrev PR : Program := PySem.Challenge.pw_xj0006_01

/-- enter a def of the written part: no exception leaves it -/
theorem leaf {w : World} {A : Around} {R : Result → Shared → Prop} {s : Shared} {K : Frag} {p : Program} {loose : List Str} {mean : ExcName → Option Value} {mg mb : Str → Option Value}
    {name qual : Str} {params : Arguments} {body : List Stmt} {scope : Scope} {dV kV doc pm cdv ct oc : Value} {an od : Option Addr} {osl : Array (Option Value)} {f : Addr} {args : Args} {binds : List (Str × Value)}
    (X : K.In s.heap) (T : Top p loose mean mg mb s.heap)
    (ho : K.lookup f = some ⟨oc, od, .func (fnOf name qual params body scope dV kV doc pm an cdv ct), osl⟩) (hcd : codeIn K cdv qual = true) (hroom : A.depth < recursionLimit)
    (hbind : BindsTo s (fnOf name qual params body scope dV kV doc pm an cdv ct) args binds) (hloc : ∀ y ∈ binds, scope.names.lookup y.1 = some .local)
    (h : ∀ h₁, Fr s.heap s.heap.objs.size h₁ (fun y => binds.reverse.lookup y) → News s.heap s.heap.objs.size h₁ [] →
      wpAny (model PR w) (A.deeper (envOf qual scope s.heap.objs.size f cdv)) (execs body (envOf qual scope s.heap.objs.size f cdv))
        (fun fl s' => R (.ok (.ret (match fl with | .ret v => v | _ => .none))) s') (fun _ _ => False)
        { s with heap := h₁, toks := s.toks + binds.length })
    (hco : scope.isCoroutine = false) (hgen : scope.isGenerator = false) (hk : scope.kind = .function) (hcell : ∀ x ∈ scope.names, x.2 ≠ .cell) :
    codeAny (model PR w) A (.call (.ref f) args) R s :=
  codeAny_call_def (fd := fnOf name qual params body scope dV kV doc pm an cdv ct) (body := body) (binds := binds) hroom (X _ _ ho) rfl T.nolimit (codeRec_of X hcd) rfl hbind hcell hloc
    (fun h₁ hns hk₁ => wpAny_mono (h h₁ ⟨hns, hk₁, Nat.le_refl _⟩ News.nil) (fun _ _ x => x) (fun _ _ x => x.elim)) hco hgen hk

end Mine
end
section
/- the part Base2 -/
open PySem PySem.W PyProof.Rows PySem.Spec PySem.Calls PySem.W.X
set_option Elab.async false
namespace Mine
set_option maxRecDepth 100000

/-- what comes back, the heap only grown -/
def Kept (s : Shared) (P : Heap → Prop) (Q : Shared → Prop) : Prop :=
  ∀ h' tk', (∀ b o, s.heap.get? b = some o → h'.get? b = some o) → P h' → Q { s with heap := h', toks := tk' }
/-- what comes back, one object changed -/
def Mut (s : Shared) (a : Addr) (o' : Obj) (P : Heap → Prop) (Q : Shared → Prop) : Prop :=
  ∀ h' tk', (∀ b o, b ≠ a → s.heap.get? b = some o → h'.get? b = some o) → h'.get? a = some o' → P h' → Q { s with heap := h', toks := tk' }
abbrev Yes : Heap → Prop := fun _ => True
theorem Kept.use {h h' : Heap} {g : Array GenState} {d : Drawn} {os : OsState} {tk tk' : Nat} {Q : Shared → Prop} {news : List (Addr × Obj)} (k : Kept ⟨h, g, d, tk, os⟩ Yes Q) (D : Mem h h' [] news) : Q ⟨h', g, d, tk', os⟩ :=
  k h' tk' (fun b o e => D.keep b o e (by simp [away])) trivial

theorem kept_frame {h₀ h h' : Heap} {L : Addr} {m : Str → Option Value} {news : List (Addr × Obj)} (hk : ∀ b o, h.get? b = some o → h'.get? b = some o) (F : Fr h₀ L h m) (N : News h₀ L h news) : Fr h₀ L h' m ∧ News h₀ L h' news :=
  ⟨F.keeps hk, fun p hp => ⟨hk _ _ (N p hp).1, (N p hp).2⟩⟩
theorem mut_frame {h₀ h h' : Heap} {L a : Addr} {o o' : Obj} {m : Str → Option Value} {news news' : List (Addr × Obj)} (hk : ∀ b o, b ≠ a → h.get? b = some o → h'.get? b = some o) (ha : h'.get? a = some o')
    (F : Fr h₀ L h m) (N : News h₀ L h news) (U : Upd a o o' news news') : Fr h₀ L h' m ∧ News h₀ L h' news' := by
  obtain ⟨pre, post, rfl, rfl, p1, p2⟩ := U.split
  have D := N (a, o) (by simp)
  obtain ⟨oL, es, ep, hL, r⟩ := F.ns
  refine ⟨⟨⟨oL, es, ep, hk _ _ (Ne.symm D.2.1) hL, r⟩, fun b x q => hk b x (fun z => ?_) (F.keep b x q), F.above⟩, fun p hp => ?_⟩
  · have := D.2.2; rw [← z, q] at this; cases this
  · rcases List.mem_append.mp hp with q | q
    · have P := N p (List.mem_append_left _ q); exact ⟨hk _ _ (p1 p q) P.1, P.2⟩
    · rcases List.mem_cons.mp q with rfl | q
      · exact ⟨ha, D.2⟩
      · have P := N p (List.mem_append_right _ (.tail _ q)); exact ⟨hk _ _ (p2 p q) P.1, P.2⟩

/-- the written part and the top, at a heap -/
structure Gnd (w : World) (h : Heap) : Prop where
  X : (hk.heap_1 w.params).In h
  Y : (kx w.params).In h
  T : ∃ p loose mean mg mb, Top p loose mean mg mb h
theorem Gnd.keeps {w : World} {h h' : Heap} (G : Gnd w h) (k : ∀ b o, h.get? b = some o → h'.get? b = some o) : Gnd w h' :=
  ⟨G.X.keeps k, G.Y.keeps k, let ⟨p, l, m, mg, mb, T⟩ := G.T; ⟨p, l, m, mg, mb, T.keeps k⟩⟩

local macro_rules | `(tactic| x_close) => `(tactic| (refine Kept.use (Q := _) (by assumption) (by assumption)))
theorem hasattr_str {w : World} {A : Around} {s : Shared} {Q : Value → Shared → Prop} {E : Value → Shared → Prop} {x : Str} {t u : Tok}
    (hq : Kept s Yes (Q (.bool true))) :
    wpAny (model PR w) A (call (.builtin "hasattr") [.str x t, .str "__getitem__" u]) Q E s := by
  obtain ⟨h, g, d, tk, os⟩ := s
  x_run
end Mine
end
namespace Mine
open PySem PySem.W PyProof.Rows PySem.Spec PySem.Calls PySem.W.X
local macro_rules | `(tactic| walk_at "mineFill") => `(tactic| (
  have hfill : PySem.Challenge.rw_xj0006_01.name = PySem.Challenge.rw_xj0006_01.name ∧ hk.heap_1 = hk.heap_1 := (by
    k_fill
    exact ⟨rfl, rfl⟩)
  clear hfill
  w_on))
local macro_rules | `(tactic| walk_at "mineLeaf") => `(tactic| (
  refine' leaf (by assumption) (by assumption) ?k6 ?k7 ?k8 ?k9 ?kB ?_ ?c2 ?c3 ?c4 ?c5
  case k6 => k_is
  case k7 => k_is
  case k8 => assumption
  case k9 => exact BindsTo.of_eq rfl
  case kB => exact locs rfl
  case c2 => exact rfl
  case c3 => exact rfl
  case c4 => exact rfl
  case c5 => decide
  intro h₁ F N))
local macro_rules | `(tactic| walk_at "mineGnd") => `(tactic| (
  have X := Gnd.X ‹Gnd _ _›
  obtain ⟨p, loose, mean, mg, mb, T⟩ := Gnd.T ‹Gnd _ _›))
section
/- the part Con1 -/
open PySem PySem.W PyProof.Rows PySem.Spec PySem.Calls PySem.W.X
set_option maxRecDepth 100000
set_option pp.deepTerms false
set_option pp.deepTerms.threshold 8
section
variable {w : World} {A : Around} {s : Shared} {Q : Value → Shared → Prop} {E : Value → Shared → Prop}

theorem add_int {x y : Int} {t u : Tok} (G : Gnd w s.heap) (hroom : A.depth < recursionLimit)
    (h : ∀ t', Kept s Yes (Q (.int (x + y) t'))) : wpAny (model PR w) A (call (.ref 45) [.int x t, .int y u]) Q E s := by
  walk_at "mineFill"
  walk_at "mineGnd"
  refine wpAny_call ?_
  walk_at "mineLeaf"
  repeat' walk1
  exact h _ _ _ (Fr.keep ‹Fr _ _ _ _›) trivial

theorem sub_int {x y : Int} {t u : Tok} (G : Gnd w s.heap) (hroom : A.depth < recursionLimit)
    (h : ∀ t', Kept s Yes (Q (.int (x - y) t'))) : wpAny (model PR w) A (call (.ref 52) [.int x t, .int y u]) Q E s := by
  walk_at "mineFill"
  walk_at "mineGnd"
  refine wpAny_call ?_
  walk_at "mineLeaf"
  repeat' walk1
  exact h _ _ _ (Fr.keep ‹Fr _ _ _ _›) trivial

theorem add_text {x y : Str} {t u : Tok} (G : Gnd w s.heap) (hroom : A.depth < recursionLimit) (hsz : x.length + y.length ≤ sizeLine)
    (h : ∀ t', Kept s Yes (Q (.str (x ++ y) t'))) : wpAny (model PR w) A (call (.ref 45) [.str x t, .str y u]) Q E s := by
  walk_at "mineFill"
  walk_at "mineGnd"
  refine wpAny_call ?_
  walk_at "mineLeaf"
  iterate 6 walk1
  refine add_str (fun t' tk => ?_) hsz
  exact h _ _ _ (Fr.keep ‹Fr _ _ _ _›) trivial

theorem add_list {a b : Addr} {xs ys : List Value} (G : Gnd w s.heap) (hroom : A.depth < recursionLimit)
    (ha : s.heap.IsList a xs.toArray) (hb : s.heap.IsList b ys.toArray) (hsz : xs.length + ys.length ≤ sizeLine)
    (h : ∀ c, s.heap.objs.size ≤ c → Kept s (fun h' => h'.get? c = some (listOf (xs ++ ys).toArray 0)) (Q (.ref c))) : wpAny (model PR w) A (call (.ref 45) [.ref a, .ref b]) Q E s := by
  walk_at "mineFill"
  walk_at "mineGnd"
  refine wpAny_call ?_
  walk_at "mineLeaf"
  iterate 6 walk1
  have F := ‹Fr _ _ _ _›
  have N := ‹News _ _ _ _›
  have hsz' : xs.toArray.size + ys.toArray.size ≤ sizeLine := by simpa using hsz
  refine add_arrays (l := a) (b := b) (its := xs.toArray) (its2 := ys.toArray) F N (ha.at fun o e => F.keep _ _ e) (hb.at fun o e => F.keep _ _ e) (fun h' F' N' => ?_) hsz'
  exact h _ (Nat.le_of_lt F.ns.lt) _ _ F'.keep (by simpa using News.get N' (.head _))

theorem concat_text {x y : Str} {t u : Tok} (G : Gnd w s.heap) (hroom : A.depth < recursionLimit) (hsz : x.length + y.length ≤ sizeLine)
    (h : ∀ t', Kept s Yes (Q (.str (x ++ y) t'))) : wpAny (model PR w) A (call (.ref 59) [.str x t, .str y u]) Q E s := by
  walk_at "mineFill"
  walk_at "mineGnd"
  refine wpAny_call ?_
  walk_at "mineLeaf"
  iterate 13 walk1
  refine hasattr_str (fun h' tk' hk _ => ?_)
  have F := Fr.keeps ‹Fr _ _ _ _› hk
  iterate 8 walk1
  refine add_str (fun t' tk => ?_) hsz
  exact h _ _ _ F.keep trivial

theorem setitem_list {a : Addr} {xs : List Value} {n : Nat} {i v : Int} {t u : Tok} (G : Gnd w s.heap) (hroom : A.depth < recursionLimit)
    (ha : s.heap.get? a = some (listOf xs.toArray n)) (h0 : 0 ≤ i) (h1 : i < xs.length) (hfit : i < 2 ^ 63)
    (h : Mut s a (listOf (xs.set i.toNat (.int v u)).toArray n) Yes (Q .none)) :
    wpAny (model PR w) A (call (.ref 73) [.ref a, .int i t, .int v u]) Q E s := by
  walk_at "mineFill"
  walk_at "mineGnd"
  refine wpAny_call ?_
  walk_at "mineLeaf"
  iterate 6 walk1
  have F := ‹Fr _ _ _ _›
  refine ki_setAt (F.keep _ _ ha) h0 hfit (by simpa using h1) ?_
  refine wpAny_execs_nil ?_
  refine h _ _ (fun b o hb e => ((Heap.SameBut.update ..).2 b hb).trans (F.keep b o e)) ?_ trivial
  have e1 : Obj.mapSeq (·.setIfInBounds i.toNat (.int v u)) (listOf xs.toArray n) = listOf (xs.set i.toNat (.int v u)).toArray n := by
    simp [Obj.mapSeq]
  rw [← e1]
  exact Heap.get?_update_self _ (F.keep _ _ ha) (by rw [e1]; rfl)
end
end
section
/- the part Loop -/
open PySem PySem.W PyProof.Rows PySem.Spec PySem.Calls PySem.W.X
set_option maxRecDepth 100000

abbrev Never : Value → Shared → Prop := fun _ _ => False

section
variable {w : World} {A : Around} {s : Shared} {env : Env} {Q : Flow → Shared → Prop} {E : Value → Shared → Prop}

/-- the next turn stands -/
def Again (n : Nat) (I : Nat → Shared → Prop) (s : Shared) : Prop := ∃ m, m < n ∧ I m s
/-- the loop is left by its end -/
def Over (Q : Flow → Shared → Prop) (s : Shared) : Prop := Q .next s

/-- one turn of a for, its states told by a number that falls; tk the tokens that were out ahead of the loop -/
def Turns (w : World) (A : Around) (env : Env) (target : Expr) (body : List Stmt) (it : Value) (tk : Nat) (Q : Flow → Shared → Prop) (I : Nat → Shared → Prop) : Prop :=
  ∀ n s, tk ≤ s.toks → I n s → wpAny (model PR w) A (pyNext it) (fun r s₁ => match r with
    | none => Over Q s₁
    | some v => wpAny (model PR w) A (letOwnedTupleGo target it v) (fun _ s₁' => wpAny (model PR w) A (assign target env v) (fun _ s₂ =>
        wpAny (model PR w) A (execs body env) (fun f s₃ => match f with
          | .next => Again n I s₃
          | .cont => Again n I s₃
          | .brk => Q .next s₃
          | .ret v => Q (.ret v) s₃) Never s₂) Never s₁') Never s₁) Never s

theorem for_rule {target iter : Expr} {body : List Stmt} {pos : Pos}
    (h : wpAny (model PR w) A (eval iter env) (fun x s₁ => wpAny (model PR w) A (pyIter x) (fun it s₂ => ∃ (tk : Nat) (I : Nat → Shared → Prop) (n : Nat), tk ≤ s₂.toks ∧ I n s₂ ∧ Turns w A env target body it tk Q I) E s₁) E s)
    (hs : ∀ x, foldedSetIterable iter env x = pure x) :
    wpAny (model PR w) A (exec (.For target iter body [] pos) env) Q E s := by
  refine wpAny_For (wpAny_mono h (fun x s₁ h₁ => wpAny_mono h₁ (fun it s₂ h₂ => ?_) fun _ _ e => e) fun _ _ e => e) hs
  obtain ⟨tk, I, n, htk, hI, turn⟩ := h₂
  refine codeAny_forLoop_any (fun k s => tk ≤ s.toks ∧ I k s) (fun k s' hk => ?_) n ⟨htk, hI⟩
  refine wpAny_mono (wpAny_toks_of hk.1 (turn k s' hk.1 hk.2)) (fun r s₁ h₁ => ?_) fun _ _ e => e.2.elim
  obtain ⟨t₁, h₁⟩ := h₁
  cases r with
  | none => exact wpAny_execs_nil h₁
  | some v =>
    refine wpAny_mono (wpAny_toks_of t₁ h₁) (fun _ s₂ h₂ => wpAny_mono (wpAny_toks_of h₂.1 h₂.2) (fun _ s₃ h₃ => wpAny_mono (wpAny_toks_of h₃.1 h₃.2) (fun f s₄ h₄ => ?_) fun _ _ e => e.2.elim) fun _ _ e => e.2.elim) fun _ _ e => e.2.elim
    obtain ⟨t₄, h₄⟩ := h₄
    cases f with
    | next => obtain ⟨m, hm, hI⟩ := h₄; exact ⟨m, hm, t₄, hI⟩
    | cont => obtain ⟨m, hm, hI⟩ := h₄; exact ⟨m, hm, t₄, hI⟩
    | brk => exact h₄
    | ret v => exact h₄
end

/-- one turn of a for, what comes after it kept out of sight -/
def TurnsQ (w : World) (A : Around) (env : Env) (target : Expr) (body : List Stmt) (it : Value) (tk : Nat) (Q : Flow → Shared → Prop) (I : Nat → Shared → Prop) : Prop :=
  ∀ (Qb : Flow → Shared → Prop) n s, (∀ s', Again n I s' → Qb .next s') → tk ≤ s.toks → I n s → wpAny (model PR w) A (pyNext it) (fun r s₁ => match r with
    | none => Over Q s₁
    | some v => wpAny (model PR w) A (letOwnedTupleGo target it v) (fun _ s₁' => wpAny (model PR w) A (assign target env v) (fun _ s₂ =>
        wpAny (model PR w) A (execs body env) Qb Never s₂) Never s₁') Never s₁) Never s
theorem for_ruleQ {target iter : Expr} {body : List Stmt} {pos : Pos}
    (h : wpAny (model PR w) A (eval iter env) (fun x s₁ => wpAny (model PR w) A (pyIter x) (fun it s₂ => ∃ (tk : Nat) (I : Nat → Shared → Prop) (n : Nat), tk ≤ s₂.toks ∧ I n s₂ ∧ TurnsQ w A env target body it tk Q I) E s₁) E s)
    (hs : ∀ x, foldedSetIterable iter env x = pure x) :
    wpAny (model PR w) A (exec (.For target iter body [] pos) env) Q E s :=
  for_rule (wpAny_mono h (fun _ _ h₁ => wpAny_mono h₁ (fun _ _ ⟨tk, I, n, a, b, c⟩ => ⟨tk, I, n, a, b, fun n s a b => c _ n s (fun _ h => h) a b⟩) fun _ _ e => e) fun _ _ e => e) hs
theorem owned_name {M : Model} {A : Around} {E : Value → Shared → Prop} {s : Shared} {x : Str} {px : Pos} {it v : Value} {Q : Unit → Shared → Prop} (h : Q () s) : wpAny M A (letOwnedTupleGo (.Name x px) it v) Q E s := wpAny_pure h

/-- what a frame is known to bind -/
def Knows (m : Str → Option Value) : List (Str × Value) → Prop
  | [] => True
  | p :: r => m p.1 = some p.2 ∧ Knows m r
theorem Knows.all {m : Str → Option Value} : ∀ {ps : List (Str × Value)}, Knows m ps → ∀ p ∈ ps, m p.1 = some p.2
  | [], _, _, h => nomatch h
  | _ :: _, ⟨h, _⟩, _, .head _ => h
  | _ :: _, ⟨_, r⟩, p, .tail _ hp => Knows.all r p hp
theorem Knows.fr {h₀ h : Heap} {L : Addr} {m : Str → Option Value} {ps : List (Str × Value)} (K : Knows m ps) (F : Fr h₀ L h m) : Fr h₀ L h (kstB m ps) := by
  have e : kstB m ps = m := funext fun z => kstB_eq K.all fun _ => rfl
  rw [e]; exact F
/-- one object of the ledger may have been turned, all else stands -/
theorem ext_frame {h₀ h h' : Heap} {L a : Addr} {o : Obj} {m : Str → Option Value} {news : List (Addr × Obj)} (hk : Heap.ExtBut a h h') (hn : ∀ p ∈ news, p.1 ≠ a) (F : Fr h₀ L h m) (N : News h₀ L h ((a, o) :: news)) : Fr h₀ L h' m ∧ News h₀ L h' news := by
  have D := N (a, o) (.head _)
  obtain ⟨oL, es, ep, hL, r⟩ := F.ns
  refine ⟨⟨⟨oL, es, ep, hk _ _ (Ne.symm D.2.1) hL, r⟩, fun b x q => hk b x (fun z => ?_) (F.keep b x q), F.above⟩, fun p hp => ?_⟩
  · have := D.2.2; rw [← z, q] at this; cases this
  · have P := N p (.tail _ hp); exact ⟨hk _ _ (hn p hp) P.1, P.2⟩
end
section
/- the part Con2 -/
open PySem PySem.W PyProof.Rows PySem.Spec PySem.Calls PySem.W.X
set_option maxRecDepth 100000
set_option pp.deepTerms false
set_option pp.deepTerms.threshold 8
section
variable {w : World} {A : Around} {s : Shared} {Q : Value → Shared → Prop} {E : Value → Shared → Prop}

theorem noneBooked {h : Heap} (G : Gnd w h) : NoneBooked h := by
  obtain ⟨p, loose, mean, mg, mb, T⟩ := G.T
  obtain ⟨mc, hns, _⟩ := T.nolimit
  exact ⟨mc, hns, ns_none_of G.X hns (by kernel_rfl)⟩

theorem is_text {y z : Str} {u v : Nat} {Q : Value → Shared → Prop} (G : Gnd w s.heap) (h0 : 0 < u) (h1 : 0 < v) (hn : u ≠ v) (h : ∀ b : Bool, (b = true → y = z) → Q (.bool b) s) :
    wpAny (model PR w) A (compareOp .Is (.str y u) (.str z v)) Q E s := by
  show wpAny (model PR w) A (isSame (.str y u) (.str z v) >>= fun b => pure (.bool b)) Q E s
  have h0' : ¬ u = 0 := Nat.pos_iff_ne_zero.mp h0
  have h1' : ¬ v = 0 := Nat.pos_iff_ne_zero.mp h1
  by_cases e : y = z
  · refine wpAny_bind (wpAny_isSame_str ?_ (noneBooked G) fun b => wpAny_pure (h b fun _ => e))
    simp [h0', h1']
  · rw [isSame_str_other y z u v (by simp [h0', h1']) (by simpa using hn) (by simpa using e)]
    exact wpAny_bind (wpAny_pure (wpAny_pure (h false (by intro q; cases q))))

theorem count_text {x : Str} {c : Nat} {t u : Nat} (G : Gnd w s.heap) (hroom : A.depth < recursionLimit) (hA : A.handled = none) (ha : x.cps.all (· < 128) = true) (h0 : 0 < u) (hu : u < s.toks)
    (h : ∀ t', Kept s Yes (Q (.int (x.cps.toList.count c : Nat) t'))) : wpAny (model PR w) A (call (.ref 66) [.str x t, .str ⟨#[c]⟩ u]) Q E s := by
  walk_at "mineFill"
  walk_at "mineGnd"
  refine wpAny_call ?_
  walk_at "mineLeaf"
  refine wpAny_execs_cons ?_
  refine wpAny_with_toks (n := s.toks) (Nat.le_add_right _ _) ?_
  iterate 3 walk1
  intro htk
  dsimp only
  refine wpAny_execs_cons ?_
  refine for_ruleQ ?_ (fun _ => rfl)
  iterate 1 walk1
  refine wpAny_pyIter_ascii ha ?_
  have F := ‹Fr _ _ _ _›
  rename_i h2 _ N2
  have hlt : s.heap.objs.size < h2.objs.size := F.ns.lt
  refine ⟨s.toks, fun k s' => ∃ i o h' tk kt m, s' = { s with heap := h', toks := tk } ∧ i ≤ x.cps.size ∧ k = x.cps.size - i ∧ o.cls = .type "str_ascii_iterator" ∧ o.data = .fields #[.str x t, .int i 0] ∧
    Fr s.heap s.heap.objs.size h' m ∧ Knows m [("b", .str ⟨#[c]⟩ u), ("count", .int ((x.cps.toList.take i).count c : Nat) kt)] ∧ News s.heap s.heap.objs.size h' [(h2.objs.size, o)], x.cps.size, htk, ?_, ?_⟩
  · exact ⟨0, _, _, _, _, _, rfl, Nat.zero_le _, rfl, rfl, rfl, F.push _, ⟨rfl, by rw [List.take_zero]; rfl, trivial⟩, N2.push F _⟩
  · rintro Qb k s' hQb htk' ⟨i, o, h', tk, kt, m, rfl, hi, rfl, hoc, hod, F', hm, N'⟩
    replace htk' : s.toks ≤ tk := htk'
    by_cases hlt : i < x.cps.size
    · refine wpAny_pyNext_ascii_item (c := x.cps[i]) (i := i) (x := x) (t := t) ⟨o, (N' _ (.head _)).1, hoc, hod⟩ (by simp [hlt]) (fun h3 hit3 hs3 => ?_)
      refine owned_name ?_
      obtain ⟨o3, ho3, hoc3, hod3⟩ := hit3
      have FN := mut_frame (fun b o hb e => (hs3.2 b hb).trans e) ho3 F' N' (.head (by intro _ h; cases h))
      obtain ⟨F3, N3⟩ := FN
      have hcount : ((x.cps.toList.take (i + 1)).count c : Nat) = (x.cps.toList.take i).count c + (if x.cps[i] = c then 1 else 0) := by
        rw [List.take_add_one]
        simp [hlt, List.count_append, List.count_cons]
      replace F3 := hm.fr F3
      refine wpAny_assign_Name ?_
      clear F F' N' N2 hm
      walk1
      refine wpAny_execs_cons ?_
      iterate 5 walk1
      refine is_text (G.keeps (Fr.keep ‹Fr _ _ _ _›)) (show 0 < tk by omega) h0 (show tk ≠ u by omega) (fun b hb => ?_)
      cases b with
      | true =>
        iterate 10 walk1
        iterate 2 (refine wpAny_execs_nil ?_; try dsimp only)
        have hc : x.cps[i] = c := by simpa using hb rfl
        rw [if_pos hc] at hcount
        exact hQb _ ⟨_, Nat.sub_lt_sub_left hlt (Nat.lt_succ_self i), i + 1, _, _, _, _, _, rfl, hlt, rfl, hoc3, hod3, ‹Fr _ _ _ _›, ⟨rfl, by rw [hcount]; rfl, trivial⟩, ‹News _ _ _ _›⟩
      | false =>
        iterate 9 walk1
        by_cases hc : x.cps[i] = c
        · rw [if_pos hc] at hcount
          rw [if_pos (by rw [hc]; exact beq_self_eq_true _)]
          iterate 7 walk1
          iterate 2 (refine wpAny_execs_nil ?_; try dsimp only)
          exact hQb _ ⟨_, Nat.sub_lt_sub_left hlt (Nat.lt_succ_self i), i + 1, _, _, _, _, _, rfl, hlt, rfl, hoc3, hod3, ‹Fr _ _ _ _›, ⟨rfl, by rw [hcount]; rfl, trivial⟩, ‹News _ _ _ _›⟩
        · rw [if_neg hc] at hcount
          rw [if_neg (by intro q; exact hc (by simpa using q))]
          iterate 2 walk1
          iterate 2 (refine wpAny_execs_nil ?_; try dsimp only)
          exact hQb _ ⟨_, Nat.sub_lt_sub_left hlt (Nat.lt_succ_self i), i + 1, _, _, _, _, _, rfl, hlt, rfl, hoc3, hod3, ‹Fr _ _ _ _›, ⟨rfl, by rw [hcount]; rfl, trivial⟩, ‹News _ _ _ _›⟩
    · have hin : i = x.cps.size := by omega
      subst hin
      refine wpAny_pyNext_ascii_end hA ⟨o, (N' _ (.head _)).1, hoc, hod⟩ (by simp) (fun h3 hx => ?_)
      have e : x.cps.toList.take x.cps.size = x.cps.toList := by rw [← Array.length_toList, List.take_length]
      rw [e] at hm
      have FN := ext_frame hx (by intro _ h; cases h) F' N'
      obtain ⟨F3, N3⟩ := FN
      replace F3 := hm.fr F3
      clear F F' N' N2 hm
      unfold Over
      dsimp only
      iterate 3 walk1
      exact h _ _ _ (Fr.keep ‹Fr _ _ _ _›) trivial
end
end
section
/- the part Rx1 -/
open PySem
set_option maxRecDepth 100000

def code1 : Array Nat := #[14, 4, 0, 1, 1, 6, 1, 16, 46, 1]
def code2 : Array Nat := #[14, 9, 4, 1, 2, 16, 10, 16, 13, 0, 7, 7, 16, 13, 16, 10, 15, 18, 5, 16, 10, 15, 13, 11, 16, 13, 5, 5, 0, 16, 10, 1, 15, 2, 0, 1]

open Sre in
theorem runFor_stop {m : Sre.M} (h : m.outcome.isSome = true) : ∀ n, Sre.M.runFor n m = m
  | 0 => rfl
  | n + 1 => by unfold Sre.M.runFor; rw [if_pos h]
theorem runFor_add {m : Sre.M} : ∀ (a b : Nat), Sre.M.runFor (a + b) m = Sre.M.runFor b (Sre.M.runFor a m) := by
  intro a
  induction a generalizing m with
  | zero => intro b; rw [Nat.zero_add]; rfl
  | succ a ih =>
    intro b
    rw [Nat.succ_add]
    show (if m.outcome.isSome then m else Sre.M.runFor (a + b) m.step) = Sre.M.runFor b (if m.outcome.isSome then m else Sre.M.runFor a m.step)
    by_cases h : m.outcome.isSome = true
    · rw [if_pos h, if_pos h, runFor_stop h]
    · rw [if_neg h, if_neg h, ih]

/-- the machine of pattern 1, about to try at s -/
def try1 (text : Array Nat) (s : Nat) (mA first : Bool) (seen : Sre.Seen) : Sre.M :=
  { code := code1, text, lim := text.size, start := s, lastStart := text.size, mustAdvance := mA, pc := 5, pos := s, handed := s, outermost := first, marks := #[],
    frames := [{ wait := .nextStart, pc := 5, pos := s, outermost := first }], weight := 1, seen }

theorem try1_step (text : Array Nat) (s : Nat) (mA first : Bool) (seen : Sre.Seen) :
    (try1 text s mA first seen).step = (if (s == 0 || text.getD (s - 1) 0 == 10) = true then { try1 text s mA first ((seen.add 6).add 44) with pc := 7 } else { try1 text s mA first ((seen.add 6).add 44) with answer := some false }) := by
  rfl
theorem try1_lit (text : Array Nat) (s : Nat) (mA first : Bool) (seen : Sre.Seen) :
    ({ try1 text s mA first seen with pc := 7 } : Sre.M).step = (if s ≥ text.size then { try1 text s mA first (seen.add 16) with pc := 7, answer := some false } else
      match text.getD s 0 == 46 with
      | true => { try1 text s mA first (seen.add 16) with pc := 9, pos := s + 1 }
      | false => { try1 text s mA first (seen.add 16) with pc := 7, answer := some false }) := by
  by_cases h : s ≥ text.size
  · rw [if_pos h]
    show (if s ≥ text.size then _ else _) = _
    rw [if_pos h]
    rfl
  · rw [if_neg h]
    show (if s ≥ text.size then _ else _) = _
    rw [if_neg h]
    show (match (Except.ok (text.getD s 0 == 46, seen.add 16) : Except String (Bool × Sre.Seen)) with
      | .error why => _
      | .ok (false, seen) => _
      | .ok (true, seen) => _) = _
    cases text.getD s 0 == 46 <;> rfl
theorem try1_succ (text : Array Nat) (s : Nat) (mA first : Bool) (seen : Sre.Seen) :
    ({ try1 text s mA first seen with pc := 9, pos := s + 1 } : Sre.M).step = { try1 text s mA first (seen.add 1) with pc := 9, pos := s + 1, handed := s + 1, answer := some true } := by
  show (if (first && ((false && _) || (mA && (s + 1 == s)))) = true then _ else _) = _
  have e : (s + 1 == s) = false := by simp
  rw [e, Bool.and_false, Bool.false_and, Bool.or_false, Bool.and_false]
  rfl
theorem try1_no (text : Array Nat) (s pc : Nat) (mA first : Bool) (seen : Sre.Seen) (h : s < text.size) :
    ({ try1 text s mA first seen with pc := pc, answer := some false } : Sre.M).step = try1 text (s + 1) false false seen := by
  show (if false = true then _ else if s < text.size then _ else _) = _
  rw [if_neg Bool.false_ne_true, if_pos h]
  rfl
/-- the machine at its end: found -/
def Found (m : Sre.M) (b e : Nat) : Prop := m.outcome = some .matched ∧ m.start = b ∧ m.handed = e
def Missed (m : Sre.M) : Prop := m.outcome = some .failed
theorem try1_last (text : Array Nat) (s pc : Nat) (mA first : Bool) (seen : Sre.Seen) (h : ¬ s < text.size) :
    Missed (Sre.M.runFor 2 { try1 text s mA first seen with pc := pc, answer := some false }) := by
  show ((Sre.M.runFor 1 (if false = true then _ else if s < text.size then _ else _)).outcome = _)
  rw [if_neg Bool.false_ne_true, if_neg h]
  rfl
theorem try1_yes (text : Array Nat) (s : Nat) (mA first : Bool) (seen : Sre.Seen) :
    Found (Sre.M.runFor 2 { try1 text s mA first seen with pc := 9, pos := s + 1, handed := s + 1, answer := some true }) s (s + 1) := ⟨rfl, rfl, rfl⟩
end
section
/- the part Rx2 -/
open PySem
set_option maxRecDepth 100000

def hit1 (text : Array Nat) (q : Nat) : Bool := (q == 0 || text.getD (q - 1) 0 == 10) && text.getD q 0 == 46

theorem run_step {m r : Sre.M} {k : Nat} (ho : m.outcome = none) (h : m.step = r) : Sre.M.runFor (k + 1) m = Sre.M.runFor k r := by
  show (if m.outcome.isSome then m else Sre.M.runFor k m.step) = _
  rw [ho, h]; rfl

theorem search1 (text : Array Nat) : ∀ (d s : Nat) (mA first : Bool) (seen : Sre.Seen), text.size - s = d → s ≤ text.size →
    ∃ k, k ≤ 8 * (d + 1) ∧ ((∃ b, s ≤ b ∧ b < text.size ∧ hit1 text b = true ∧ (∀ q, s ≤ q → q < b → hit1 text q = false) ∧ Found (Sre.M.runFor k (try1 text s mA first seen)) b (b + 1)) ∨
      ((∀ q, s ≤ q → q < text.size → hit1 text q = false) ∧ Missed (Sre.M.runFor k (try1 text s mA first seen)))) := by
  intro d
  induction d with
  | zero =>
    intro s mA first seen hd hs
    have hs' : s = text.size := by omega
    subst hs'
    by_cases c1 : (text.size == 0 || text.getD (text.size - 1) 0 == 10) = true
    · refine ⟨1 + (1 + 2), by omega, .inr ⟨fun q h1 h2 => by omega, ?_⟩⟩
      rw [Nat.add_comm, run_step rfl (try1_step ..), if_pos c1, Nat.add_comm, run_step rfl (try1_lit ..), if_pos (Nat.le_refl _)]
      exact try1_last _ _ _ _ _ _ (Nat.lt_irrefl _)
    · refine ⟨1 + 2, by omega, .inr ⟨fun q h1 h2 => by omega, ?_⟩⟩
      rw [Nat.add_comm, run_step rfl (try1_step ..), if_neg c1]
      exact try1_last text text.size 5 _ _ _ (Nat.lt_irrefl _)
  | succ d ih =>
    intro s mA first seen hd hs
    have hlt : s < text.size := by omega
    have more : ∀ (m : Sre.M) (j : Nat), j ≤ 3 → (∃ seen', Sre.M.runFor j m = try1 text (s + 1) false false seen') → hit1 text s = false →
        ∃ k, k ≤ 8 * (d + 1 + 1) ∧ ((∃ b, s ≤ b ∧ b < text.size ∧ hit1 text b = true ∧ (∀ q, s ≤ q → q < b → hit1 text q = false) ∧ Found (Sre.M.runFor k m) b (b + 1)) ∨
          ((∀ q, s ≤ q → q < text.size → hit1 text q = false) ∧ Missed (Sre.M.runFor k m))) := by
      intro m j hj ⟨seen', hm⟩ hno
      obtain ⟨k, hk, hc⟩ := ih (s + 1) false false seen' (by omega) hlt
      refine ⟨j + k, by omega, ?_⟩
      rw [runFor_add, hm]
      rcases hc with ⟨b, h1, h2, h3, h4, h5⟩ | ⟨h4, h5⟩
      · refine .inl ⟨b, by omega, h2, h3, fun q q1 q2 => ?_, h5⟩
        by_cases e : q = s
        · subst e; exact hno
        · exact h4 q (by omega) q2
      · refine .inr ⟨fun q q1 q2 => ?_, h5⟩
        by_cases e : q = s
        · subst e; exact hno
        · exact h4 q (by omega) q2
    by_cases c1 : (s == 0 || text.getD (s - 1) 0 == 10) = true
    · cases c2 : text.getD s 0 == 46 with
      | true =>
        refine ⟨1 + 1 + 1 + 2, by omega, .inl ⟨s, Nat.le_refl _, hlt, by simp only [hit1, c1, c2, Bool.and_self], fun q h1 h2 => by omega, ?_⟩⟩
        have e1 : Sre.M.runFor (1 + 1 + 1) (try1 text s mA first seen) = { try1 text s mA first (((seen.add 6).add 44).add 16 |>.add 1) with pc := 9, pos := s + 1, handed := s + 1, answer := some true } := by
          rw [run_step rfl (try1_step ..), if_pos c1, run_step rfl (try1_lit ..), if_neg (by omega), c2]
          show Sre.M.runFor (0 + 1) _ = _
          rw [run_step rfl (try1_succ ..)]; rfl
        rw [runFor_add, e1]
        exact try1_yes ..
      | false =>
        refine more _ 3 (by omega) ⟨((seen.add 6).add 44).add 16, ?_⟩ (by simp only [hit1, c2, Bool.and_false])
        rw [run_step rfl (try1_step ..), if_pos c1, run_step rfl (try1_lit ..), if_neg (by omega), c2]
        show Sre.M.runFor (0 + 1) _ = _
        rw [run_step rfl (try1_no _ _ _ _ _ _ hlt)]; rfl
    · refine more _ 2 (by omega) ⟨(seen.add 6).add 44, ?_⟩ (by simp only [hit1]; rw [Bool.not_eq_true] at c1; rw [c1]; rfl)
      rw [run_step rfl (try1_step ..), if_neg c1]
      exact run_step (k := 0) rfl (try1_no text s 5 mA first _ hlt)
end
section
/- the part Rx3 -/
open PySem
set_option maxRecDepth 100000

def st2 (text : Array Nat) (s pc pos handed : Nat) (om : Bool) (fr : List Sre.Frame) (wt : Nat) (ans : Option Bool) (seen : Sre.Seen) : Sre.M :=
  { code := code2, text, lim := text.size, start := s, lastStart := text.size, pc, pos, handed, outermost := om, marks := #[], frames := fr, weight := wt, answer := ans, seen }
def nx (s : Nat) (om : Bool) : Sre.Frame := { wait := .nextStart, pc := 10, pos := s, outermost := om }
def br (s pc : Nat) (om : Bool) : Sre.Frame := { wait := .nextBranch, pc := pc, pos := s, outermost := om }
def ln (s : Nat) (om : Bool) : Sre.Frame := { wait := .lookNot, pc := 26, pos := s, outermost := om }

section
variable (text : Array Nat) (s pos handed : Nat) (om : Bool) (fr : List Sre.Frame) (wt : Nat) (seen : Sre.Seen)

theorem lit2 {pc v : Nat} (h : (pc = 12 ∧ v = 13) ∨ (pc = 14 ∧ v = 10) ∨ (pc = 19 ∧ v = 10) ∨ (pc = 24 ∧ v = 13) ∨ (pc = 29 ∧ v = 10)) :
    (st2 text s pc pos handed om fr wt none seen).step = (if pos ≥ text.size then st2 text s pc pos handed om fr wt (some false) (seen.add 16) else
      match text.getD pos 0 == v with
      | true => st2 text s (pc + 2) (pos + 1) handed om fr wt none (seen.add 16)
      | false => st2 text s pc pos handed om fr wt (some false) (seen.add 16)) := by
  rcases h with ⟨rfl, rfl⟩ | ⟨rfl, rfl⟩ | ⟨rfl, rfl⟩ | ⟨rfl, rfl⟩ | ⟨rfl, rfl⟩
  · by_cases h : pos ≥ text.size
    · rw [if_pos h]
      show (if pos ≥ text.size then _ else _) = _
      rw [if_pos h]
      rfl
    · rw [if_neg h]
      show (if pos ≥ text.size then _ else _) = _
      rw [if_neg h]
      show (match (Except.ok (text.getD pos 0 == 13, seen.add 16) : Except String (Bool × Sre.Seen)) with
        | .error why => _
        | .ok (false, seen) => _
        | .ok (true, seen) => _) = _
      cases text.getD pos 0 == 13 <;> rfl
  · by_cases h : pos ≥ text.size
    · rw [if_pos h]
      show (if pos ≥ text.size then _ else _) = _
      rw [if_pos h]
      rfl
    · rw [if_neg h]
      show (if pos ≥ text.size then _ else _) = _
      rw [if_neg h]
      show (match (Except.ok (text.getD pos 0 == 10, seen.add 16) : Except String (Bool × Sre.Seen)) with
        | .error why => _
        | .ok (false, seen) => _
        | .ok (true, seen) => _) = _
      cases text.getD pos 0 == 10 <;> rfl
  · by_cases h : pos ≥ text.size
    · rw [if_pos h]
      show (if pos ≥ text.size then _ else _) = _
      rw [if_pos h]
      rfl
    · rw [if_neg h]
      show (if pos ≥ text.size then _ else _) = _
      rw [if_neg h]
      show (match (Except.ok (text.getD pos 0 == 10, seen.add 16) : Except String (Bool × Sre.Seen)) with
        | .error why => _
        | .ok (false, seen) => _
        | .ok (true, seen) => _) = _
      cases text.getD pos 0 == 10 <;> rfl
  · by_cases h : pos ≥ text.size
    · rw [if_pos h]
      show (if pos ≥ text.size then _ else _) = _
      rw [if_pos h]
      rfl
    · rw [if_neg h]
      show (if pos ≥ text.size then _ else _) = _
      rw [if_neg h]
      show (match (Except.ok (text.getD pos 0 == 13, seen.add 16) : Except String (Bool × Sre.Seen)) with
        | .error why => _
        | .ok (false, seen) => _
        | .ok (true, seen) => _) = _
      cases text.getD pos 0 == 13 <;> rfl
  · by_cases h : pos ≥ text.size
    · rw [if_pos h]
      show (if pos ≥ text.size then _ else _) = _
      rw [if_pos h]
      rfl
    · rw [if_neg h]
      show (if pos ≥ text.size then _ else _) = _
      rw [if_neg h]
      show (match (Except.ok (text.getD pos 0 == 10, seen.add 16) : Except String (Bool × Sre.Seen)) with
        | .error why => _
        | .ok (false, seen) => _
        | .ok (true, seen) => _) = _
      cases text.getD pos 0 == 10 <;> rfl
theorem jump2 {pc : Nat} (h : pc = 16 ∨ pc = 21 ∨ pc = 32) : (st2 text s pc pos handed om fr wt none seen).step = st2 text s 35 pos handed om fr wt none (seen.add 15) := by
  rcases h with rfl | rfl | rfl <;> rfl
theorem succ2 : (st2 text s 35 pos handed om fr wt none seen).step = st2 text s 35 pos pos om fr wt (some true) (seen.add 1) := by
  show (if (om && ((false && _) || (false && _))) = true then _ else _) = _
  rw [Bool.false_and, Bool.false_and, Bool.or_false, Bool.and_false]; rfl
theorem yes2 (b : Nat) : Found (Sre.M.runFor 3 (st2 text s 35 pos pos om [br s b om, nx s om] 2 (some true) seen)) s pos := ⟨rfl, rfl, rfl⟩
theorem start2 : (st2 text s 10 s s om [nx s om] 1 none seen).step = st2 text s 12 s s om [br s 11 om, nx s om] 2 none (seen.add 7) := rfl
theorem next2a (pc : Nat) : (st2 text s pc pos handed om [br s 11 om, nx s om] 2 (some false) seen).step = st2 text s 19 s s om [br s 18 om, nx s om] 2 none seen := rfl
theorem next2b (pc : Nat) : (st2 text s pc pos handed om [br s 18 om, nx s om] 2 (some false) seen).step = st2 text s 24 s s om [br s 23 om, nx s om] 2 none seen := rfl
theorem not2 : (st2 text s 26 pos handed om [br s 23 om, nx s om] 2 none seen).step = st2 text s 29 pos pos false [ln pos om, br s 23 om, nx s om] 3 none (seen.add 5) := rfl
theorem not2no (q : Nat) : (st2 text s 29 q pos false [ln pos om, br s 23 om, nx s om] 3 (some false) seen).step = st2 text s 32 pos pos om [br s 23 om, nx s om] 2 none seen := rfl
end

def isEnd (c : Nat) : Bool := c == 10 || c == 13
/-- how long the line's end at q is -/
def endLen (text : Array Nat) (q : Nat) : Nat := if text.getD q 0 == 13 && decide (q + 1 < text.size) && text.getD (q + 1) 0 == 10 then 2 else 1

theorem match2 (text : Array Nat) (s : Nat) (om : Bool) (seen : Sre.Seen) (h : s < text.size) (he : isEnd (text.getD s 0) = true) :
    ∃ k, k ≤ 16 ∧ Found (Sre.M.runFor k (st2 text s 10 s s om [nx s om] 1 none seen)) s (s + endLen text s) := by
  cases h13 : text.getD s 0 == 13 with
  | true =>
    have n10 : (text.getD s 0 == 10) = false := by rw [eq_of_beq h13]; rfl
    by_cases h1 : s + 1 < text.size
    · cases h10 : text.getD (s + 1) 0 == 10 with
      | true =>
        have e : endLen text s = 2 := by simp only [endLen, h13, h10, h1, decide_true, Bool.and_self, if_true]
        rw [e]
        refine ⟨5 + 3, by omega, ?_⟩
        rw [runFor_add]
        rw [run_step rfl (start2 ..), run_step rfl (lit2 text s s s om _ _ _ (.inl ⟨rfl, rfl⟩)), if_neg (by omega), h13]
        dsimp only
        rw [run_step rfl (lit2 text s (s + 1) s om _ _ _ (.inr (.inl ⟨rfl, rfl⟩))), if_neg (by omega), h10]
        dsimp only
        rw [run_step rfl (jump2 text s _ _ _ _ _ _ (.inl rfl)), run_step (k := 0) rfl (succ2 ..)]
        exact yes2 ..
      | false =>
        have e : endLen text s = 1 := by simp only [endLen, h10, Bool.and_false, Bool.false_eq_true, if_false]
        rw [e]
        refine ⟨12 + 3, by omega, ?_⟩
        rw [runFor_add]
        rw [run_step rfl (start2 ..), run_step rfl (lit2 text s s s om _ _ _ (.inl ⟨rfl, rfl⟩)), if_neg (by omega), h13]
        dsimp only
        rw [run_step rfl (lit2 text s (s + 1) s om _ _ _ (.inr (.inl ⟨rfl, rfl⟩))), if_neg (by omega), h10]
        dsimp only
        rw [run_step rfl (next2a ..), run_step rfl (lit2 text s s s om _ _ _ (.inr (.inr (.inl ⟨rfl, rfl⟩)))), if_neg (by omega), n10]
        dsimp only
        rw [run_step rfl (next2b ..), run_step rfl (lit2 text s s s om _ _ _ (.inr (.inr (.inr (.inl ⟨rfl, rfl⟩))))), if_neg (by omega), h13]
        dsimp only
        rw [run_step rfl (not2 ..), run_step rfl (lit2 text s (s + 1) (s + 1) false _ _ _ (.inr (.inr (.inr (.inr ⟨rfl, rfl⟩))))), if_neg (by omega), h10]
        dsimp only
        rw [run_step rfl (not2no ..), run_step rfl (jump2 text s _ _ _ _ _ _ (.inr (.inr rfl))), run_step (k := 0) rfl (succ2 ..)]
        exact yes2 ..
    · have e : endLen text s = 1 := by simp only [endLen, h1, decide_false, Bool.and_false, Bool.false_and, Bool.false_eq_true, if_false]
      rw [e]
      refine ⟨12 + 3, by omega, ?_⟩
      rw [runFor_add]
      rw [run_step rfl (start2 ..), run_step rfl (lit2 text s s s om _ _ _ (.inl ⟨rfl, rfl⟩)), if_neg (by omega), h13]
      dsimp only
      rw [run_step rfl (lit2 text s (s + 1) s om _ _ _ (.inr (.inl ⟨rfl, rfl⟩))), if_pos (by omega)]
      rw [run_step rfl (next2a ..), run_step rfl (lit2 text s s s om _ _ _ (.inr (.inr (.inl ⟨rfl, rfl⟩)))), if_neg (by omega), n10]
      dsimp only
      rw [run_step rfl (next2b ..), run_step rfl (lit2 text s s s om _ _ _ (.inr (.inr (.inr (.inl ⟨rfl, rfl⟩))))), if_neg (by omega), h13]
      dsimp only
      rw [run_step rfl (not2 ..), run_step rfl (lit2 text s (s + 1) (s + 1) false _ _ _ (.inr (.inr (.inr (.inr ⟨rfl, rfl⟩))))), if_pos (by omega)]
      rw [run_step rfl (not2no ..), run_step rfl (jump2 text s _ _ _ _ _ _ (.inr (.inr rfl))), run_step (k := 0) rfl (succ2 ..)]
      exact yes2 ..
  | false =>
    have h10 : (text.getD s 0 == 10) = true := by rw [isEnd, h13, Bool.or_false] at he; exact he
    have e : endLen text s = 1 := by simp only [endLen, h13, Bool.false_and, Bool.false_eq_true, if_false]
    rw [e]
    refine ⟨6 + 3, by omega, ?_⟩
    rw [runFor_add]
    rw [run_step rfl (start2 ..), run_step rfl (lit2 text s s s om _ _ _ (.inl ⟨rfl, rfl⟩)), if_neg (by omega), h13]
    dsimp only
    rw [run_step rfl (next2a ..), run_step rfl (lit2 text s s s om _ _ _ (.inr (.inr (.inl ⟨rfl, rfl⟩)))), if_neg (by omega), h10]
    dsimp only
    rw [run_step rfl (jump2 text s _ _ _ _ _ _ (.inr (.inl rfl))), run_step (k := 0) rfl (succ2 ..)]
    exact yes2 ..
end
section
/- the part Rx4 -/
open PySem
set_option maxRecDepth 100000

theorem inSet2 (c : Nat) (seen : Sre.Seen) : ∃ seen', Sre.inSet code2 c 36 5 true seen = .ok (isEnd c, seen') := by
  cases h1 : c == 10 with
  | true =>
    refine ⟨seen.add 16, ?_⟩
    show (if (c == 10) = true then _ else _) = _
    rw [if_pos h1, isEnd, h1]; rfl
  | false =>
    cases h2 : c == 13 with
    | true =>
      refine ⟨(seen.add 16).add 16, ?_⟩
      show (if (c == 10) = true then _ else if (c == 13) = true then _ else _) = _
      rw [if_neg (by rw [h1]; exact Bool.false_ne_true), if_pos h2, isEnd, h1, h2]; rfl
    | false =>
      refine ⟨((seen.add 16).add 16).add 0, ?_⟩
      show (if (c == 10) = true then _ else if (c == 13) = true then _ else _) = _
      rw [if_neg (by rw [h1]; exact Bool.false_ne_true), if_neg (by rw [h2]; exact Bool.false_ne_true), isEnd, h1, h2]; rfl

theorem admitted2 (m : Sre.M) (hc : m.code = code2) (hl : m.lim = m.text.size) : ∀ (fuel s : Nat) (seen : Sre.Seen), m.text.size - s < fuel →
    (∃ b seen', s ≤ b ∧ b < m.text.size ∧ isEnd (m.text.getD b 0) = true ∧ (∀ q, s ≤ q → q < b → isEnd (m.text.getD q 0) = false) ∧ Sre.M.admitted m fuel s seen = .ok (some b, seen')) ∨
    ((∀ q, s ≤ q → q < m.text.size → isEnd (m.text.getD q 0) = false) ∧ ∃ seen', Sre.M.admitted m fuel s seen = .ok (none, seen')) := by
  intro fuel
  induction fuel with
  | zero => intro s seen h; omega
  | succ fuel ih =>
    intro s seen h
    have e0 : Sre.M.admitted m (fuel + 1) s seen = (if s ≥ m.lim then .ok (none, seen) else
        match Sre.inSet m.code (m.text.getD s 0) m.code.size 5 true seen with
        | .ok (true, seen) => .ok (some s, seen)
        | .ok (false, seen) => Sre.M.admitted m fuel (s + 1) seen
        | .error why => .error why) := rfl
    rw [e0, hl]
    by_cases hs : s ≥ m.text.size
    · rw [if_pos hs]
      exact .inr ⟨fun q h1 h2 => by omega, _, rfl⟩
    · rw [if_neg hs, hc]
      obtain ⟨seen', e⟩ := inSet2 (m.text.getD s 0) seen
      have e1 : Sre.inSet code2 (m.text.getD s 0) code2.size 5 true seen = .ok (isEnd (m.text.getD s 0), seen') := e
      rw [e1]
      cases hb : isEnd (m.text.getD s 0) with
      | true => exact .inl ⟨s, seen', Nat.le_refl _, by omega, hb, fun q h1 h2 => by omega, rfl⟩
      | false =>
        rcases ih (s + 1) seen' (by omega) with ⟨b, s2, h1, h2, h3, h4, h5⟩ | ⟨h4, s2, h5⟩
        · refine .inl ⟨b, s2, by omega, h2, h3, fun q q1 q2 => ?_, h5⟩
          by_cases eq : q = s
          · subst eq; exact hb
          · exact h4 q (by omega) q2
        · refine .inr ⟨fun q q1 q2 => ?_, s2, h5⟩
          by_cases eq : q = s
          · subst eq; exact hb
          · exact h4 q (by omega) q2

theorem forSearch1 (text : Array Nat) (pos : Nat) (mA : Bool) (h : pos ≤ text.size) :
    ∃ k, k ≤ 8 * (text.size + 1) ∧ ((∃ b, pos ≤ b ∧ b < text.size ∧ hit1 text b = true ∧ (∀ q, pos ≤ q → q < b → hit1 text q = false) ∧ Found (Sre.M.runFor k (Sre.forSearch code1 text 0 pos text.size mA)) b (b + 1)) ∨
      ((∀ q, pos ≤ q → q < text.size → hit1 text q = false) ∧ Missed (Sre.M.runFor k (Sre.forSearch code1 text 0 pos text.size mA)))) := by
  have e : Sre.forSearch code1 text 0 pos text.size mA = (if (decide (pos > text.size) || decide (text.size - pos < 1)) = true then
      ({ try1 text pos mA true (({} : Sre.Seen).add 14) with start := pos, lastStart := 0, outermost := true, frames := [], weight := 0, answer := some false } : Sre.M) else try1 text pos mA true (({} : Sre.Seen).add 14)) := rfl
  by_cases hp : pos < text.size
  · rw [e, if_neg (by simp; omega)]
    obtain ⟨k, hk, hc⟩ := search1 text (text.size - pos) pos mA true (({} : Sre.Seen).add 14) rfl h
    exact ⟨k, by omega, hc⟩
  · rw [e, if_pos (by simp; omega)]
    exact ⟨1, by omega, .inr ⟨fun q h1 h2 => by omega, rfl⟩⟩

theorem forSearch2 (text : Array Nat) (pos : Nat) (mA : Bool) (h : pos ≤ text.size) :
    ∃ k, k ≤ 16 ∧ ((∃ b, pos ≤ b ∧ b < text.size ∧ isEnd (text.getD b 0) = true ∧ (∀ q, pos ≤ q → q < b → isEnd (text.getD q 0) = false) ∧ Found (Sre.M.runFor k (Sre.forSearch code2 text 0 pos text.size mA)) b (b + endLen text b)) ∨
      ((∀ q, pos ≤ q → q < text.size → isEnd (text.getD q 0) = false) ∧ Missed (Sre.M.runFor k (Sre.forSearch code2 text 0 pos text.size mA)))) := by
  let m0 : Sre.M := { code := code2, text, lim := text.size, start := pos, lastStart := text.size, pc := 10, pos, handed := pos, marks := #[], mustAdvance := mA, seen := ({} : Sre.Seen).add 14 }
  have e : Sre.forSearch code2 text 0 pos text.size mA = (if (decide (pos > text.size) || decide (text.size - pos < 1)) = true then
      ({ m0 with lastStart := 0, answer := some false } : Sre.M) else
        match Sre.M.admitted m0 (text.size + 1 - pos) pos (({} : Sre.Seen).add 14) with
        | .ok (some s, seen) => { m0 with mustAdvance := false, seen }.attemptAt s true
        | .ok (none, seen) => { m0 with seen }.say false
        | .error why => m0.stick why) := rfl
  by_cases hp : pos < text.size
  · rw [e, if_neg (by simp; omega)]
    rcases admitted2 m0 rfl rfl (text.size + 1 - pos) pos (({} : Sre.Seen).add 14) (by show text.size - pos < _; omega) with ⟨b, s2, h1, h2, h3, h4, h5⟩ | ⟨h4, s2, h5⟩
    · rw [h5]
      obtain ⟨k, hk, hF⟩ := match2 text b true s2 h2 h3
      exact ⟨k, hk, .inl ⟨b, h1, h2, h3, h4, hF⟩⟩
    · rw [h5]
      exact ⟨1, by omega, .inr ⟨h4, rfl⟩⟩
  · rw [e, if_pos (by simp; omega)]
    exact ⟨1, by omega, .inr ⟨fun q h1 h2 => by omega, rfl⟩⟩
end
section
/- the part Rx5 -/
open PySem PySem.W PyProof.Rows PySem.Spec PySem.Calls
set_option maxRecDepth 100000

section
variable {M : Model} {A : Around} {E : Value → Shared → Prop} {s : Shared}
theorem drive {Q : Sre.M → Shared → Prop} : ∀ (n : Nat) {m r : Sre.M} {k : Nat}, Sre.M.runFor k m = r → r.outcome.isSome = true → k ≤ 4 * n → 0 < n → Q r s → wpAny M A (Builtin.Re.reDrive n m) Q E s
  | 0, _, _, _, _, _, _, h, _ => absurd h (Nat.lt_irrefl _)
  | n + 1, m, r, k, hr, ho, hk, _, hq => by
    show wpAny M A (if (Sre.M.runFor 4 m).outcome.isSome = true then pure (Sre.M.runFor 4 m) else (rule "sre.turn" >>= fun _ => Builtin.Re.reDrive n (Sre.M.runFor 4 m))) Q E s
    by_cases h4 : (Sre.M.runFor 4 m).outcome.isSome = true
    · rw [if_pos h4]
      have e : Sre.M.runFor 4 m = r := by
        by_cases hle : k ≤ 4
        · have e1 : Sre.M.runFor (k + (4 - k)) m = r := by rw [runFor_add, hr, runFor_stop ho]
          rw [show k + (4 - k) = 4 by omega] at e1; exact e1
        · have e1 : Sre.M.runFor (4 + (k - 4)) m = Sre.M.runFor 4 m := by rw [runFor_add, runFor_stop h4]
          rw [show 4 + (k - 4) = k by omega, hr] at e1; exact e1.symm
      rw [e]; exact wpAny_pure hq
    · rw [if_neg h4]
      have hle : ¬ k ≤ 4 := fun hle => h4 (by
        have e1 : Sre.M.runFor (k + (4 - k)) m = r := by rw [runFor_add, hr, runFor_stop ho]
        rw [show k + (4 - k) = 4 by omega] at e1; rw [e1]; exact ho)
      refine wpAny_bind (wpAny_rule (drive n (m := Sre.M.runFor 4 m) (k := k - 4) ?_ ho (by omega) (by omega) hq))
      rw [← runFor_add, show 4 + (k - 4) = k by omega, hr]

theorem told {Q : PUnit → Shared → Prop} {p : Nat → Bool} {f : Nat → String} (hq : Q ⟨⟩ s) : ∀ (l : List Nat), wpAny M A (forIn l PUnit.unit fun i _ => if p i = true then (rule (f i) >>= fun _ => pure (ForInStep.yield PUnit.unit)) else pure (ForInStep.yield PUnit.unit)) Q E s
  | [] => wpAny_pure hq
  | i :: l => by
    rw [List.forIn_cons]
    refine wpAny_bind ?_
    by_cases h : p i = true
    · rw [if_pos h]; exact wpAny_bind (wpAny_rule (wpAny_pure (told hq l)))
    · rw [if_neg h]; exact wpAny_pure (told hq l)

theorem runToEnd {Q : Option Sre.M → Shared → Prop} {m : Sre.M} {k : Nat} {o : Sre.Outcome} (ho : (Sre.M.runFor k m).outcome = some o) (hk : k ≤ 4 * 2 ^ 64)
    (h : match o with | .matched => Q (some (Sre.M.runFor k m)) s | .failed => Q none s | .stuck _ => False) : wpAny M A (Builtin.Re.reRunToEnd m) Q E s := by
  unfold Builtin.Re.reRunToEnd
  refine wpAny_bind (drive (2 ^ 64) (k := k) rfl (by rw [ho]; rfl) hk (by decide) ?_)
  refine wpAny_bind (told ?_ _)
  rw [ho]
  cases o with
  | matched => exact wpAny_pure h
  | failed => exact wpAny_pure h
  | stuck _ => exact h.elim
end
end
section
/- the part Rx6 -/
open PySem PySem.W PyProof.Rows PySem.Spec PySem.Calls
set_option maxRecDepth 100000

/-- a pattern of the written part: its address, its words' address, its words -/
structure Pat (w : World) (p c : Addr) (code : Array Nat) : Prop where
  pat : ∃ a b, (hk.heap_1 w.params).lookup p = some ⟨.type "re.Pattern", none, .fields #[a, b, .int 0 0, .none, .none, .ref c, .int 0 0], #[]⟩
  words : ∃ vs n, (hk.heap_1 w.params).lookup c = some ⟨.type "tuple", none, .seq vs n, #[]⟩ ∧ (vs.map Builtin.Re.reRawOf).map (·.toNat) = code
theorem pat1 (w : World) : Pat w 162 161 code1 := ⟨⟨_, _, rfl⟩, ⟨_, _, rfl, by kernel_rfl⟩⟩
theorem pat2 (w : World) : Pat w 167 166 code2 := ⟨⟨_, _, rfl⟩, ⟨_, _, rfl, by kernel_rfl⟩⟩

section
variable {w : World} {A : Around} {E : Value → Shared → Prop} {s : Shared} {p c : Addr} {code : Array Nat}

def target (p : Addr) (x : Str) (t : Tok) (code : Array Nat) : Builtin.Re.ReTarget := { pattern := .ref p, string := .str x t, code := code, text := x.cps, kind := 0, groups := 0, pos := 0, lim := x.cps.size }

theorem whole {x : Str} {t : Tok} {Q : Builtin.Re.ReTarget → Shared → Prop} (X : (hk.heap_1 w.params).In s.heap) (P : Pat w p c code) (h : Q (target p x t code) s) :
    wpAny (model PR w) A (Builtin.Re.reWholeTarget (.ref p) (.str x t)) Q E s := by
  obtain ⟨a, b, hp⟩ := P.pat
  obtain ⟨vs, n, hc, hcode⟩ := P.words
  have hp := X _ _ hp
  have hc := X _ _ hc
  obtain ⟨hh, g, d, tk, os⟩ := s
  unfold Builtin.Re.reWholeTarget
  repeat (any_goals (first | assumption | wp_step))
  subst hcode
  exact h
end

/-- one search of a pattern: from start on -/
def Srch (code : Array Nat) (text : Array Nat) (start : Nat) (hit : Option (Nat × Nat)) : Prop :=
  ∀ mA, ∃ k, k ≤ 4 * 2 ^ 64 ∧ match hit with
    | some (b, e) => Found (Sre.M.runFor k (Sre.forSearch code text 0 start text.size mA)) b e
    | none => Missed (Sre.M.runFor k (Sre.forSearch code text 0 start text.size mA))

section
variable {w : World} {A : Around} {E : Value → Shared → Prop} {s : Shared} {p c : Addr} {code : Array Nat}
theorem nextFound {x : Str} {t : Tok} {start : Nat} {mA : Bool} {hit : Option (Nat × Nat)} {Q : Option Sre.M → Shared → Prop} (hs : Srch code x.cps start hit)
    (h : match hit with | some (b, e) => ∀ m : Sre.M, m.start = b → m.handed = e → Q (some m) s | none => Q none s) :
    wpAny (model PR w) A (Builtin.Re.reNextFound (target p x t code) start mA) Q E s := by
  obtain ⟨k, hk, hr⟩ := hs mA
  show wpAny (model PR w) A (Builtin.Re.reRunToEnd (Sre.forSearch code x.cps 0 start x.cps.size mA)) Q E s
  cases hit with
  | none => exact runToEnd (o := .failed) hr hk h
  | some be => exact runToEnd (o := .matched) hr.1 hk (h _ hr.2.1 hr.2.2)

/-- what the loop of sub leaves from a place on -/
inductive SubFrom (code : Array Nat) (text : Array Nat) (repl : List Nat) : Nat → List Nat → Prop
  | last {p : Nat} : p ≤ text.size → Srch code text p none → SubFrom code text repl p (text.extract p text.size).toList
  | hit {p b e : Nat} {r : List Nat} : p ≤ b → b < e → e ≤ text.size → Srch code text p (some (b, e)) → SubFrom code text repl e r → SubFrom code text repl p ((text.extract p b).toList ++ repl ++ r)

abbrev subArgs (p : Addr) (x : Str) (t : Tok) (r : Str) (u : Tok) (n st : Nat) (must : Bool) (D : Addr) : Args :=
  ⟨[.ref p, .str x t, .str r u, rawInt 0, rawInt 0, rawInt n, rawInt st, rawInt st, .bool must, .ref D, .bool false], []⟩

theorem slice {T : Builtin.Re.ReTarget} (hk : T.kind = 0) {b e : Nat} {Q : Value → Shared → Prop} (hsz : T.text.size ≤ sizeLine) (h : ∀ t' tk', Q (.str ⟨T.text.extract b e⟩ t') { s with toks := tk' }) :
    wpAny (model PR w) A (Builtin.Re.reSlice T.text T.kind b e) Q E s := by
  unfold Builtin.Re.reSlice
  rw [hk]
  refine wpAny_mkStr (h _ _) ?_
  show (T.text.extract b e).size ≤ sizeLine
  rw [Array.size_extract]; omega
end
end
section
/- the part Rx7 -/
open PySem PySem.W PyProof.Rows PySem.Spec PySem.Calls
set_option maxRecDepth 100000

theorem builtin_code {w : World} {A : Around} {s : Shared} {id : String} {args : Args} {b : Builtin} {R : Result → Shared → Prop} (hp : plainId id = true) (hb : entryFor table id = some b)
    (h : wpAny (model PR w) A.in1 (b args) (fun fin s' => match fin with | .done f => R (.ok f) s' | .again c' => c'.quiet = true ∧ codeAny (model PR w) A c' R s') (fun e s' => R (.error e) s') s) :
    codeAny (model PR w) A (.builtin id args) R s := by
  refine codeAny_of_tree ?_
  rw [Around.under_plainId hp]
  show wpAny _ _ (match entryFor table id with | some b => b args | none => unsupported ((withoutEnding? id "#data").getD id)) _ _ s
  rw [hb]; exact h

theorem plain_loop : plainId "re.Pattern.sub.loop" = true := by decide +kernel
theorem entry_loop : entryFor table "re.Pattern.sub.loop" = some Builtin.«re.Pattern.sub.loop» := entryFor_of_fast (by kernel_rfl)
theorem quiet_loop (args : Args) : (Code.builtin "re.Pattern.sub.loop" args).quiet = true := plainId_quiet plain_loop args

theorem strsAre_snoc {vs : List Value} {ys : List Str} {y : Str} {t : Tok} (h : StrsAre vs ys) : StrsAre (vs ++ [.str y t]) (ys ++ [y]) := by
  induction h with
  | nil => exact .cons y t .nil
  | cons z u _ ih => exact .cons z u ih

/-- the signs of texts laid end to end -/
def laid (ys : List Str) : List Nat := (ys.map (·.cps.toList)).flatten
theorem laid_snoc (ys : List Str) (y : Str) : laid (ys ++ [y]) = laid ys ++ y.cps.toList := by simp [laid]
theorem glued_aux : ∀ (r : List Str) (a : Array Nat), (r.foldl (fun acc p => acc ++ (⟨#[]⟩ : Str).cps ++ p.cps) a).toList = a.toList ++ laid r
  | [], a => by simp [laid]
  | y :: r, a => by
    rw [List.foldl_cons, glued_aux r]
    simp [laid]
theorem join_empty (ys : List Str) : Txt.join ⟨#[]⟩ ys = ⟨(laid ys).toArray⟩ := by
  show Builtin.Str.glued _ _ = _
  unfold Builtin.Str.glued
  cases ys with
  | nil => rfl
  | cons y r =>
    have e := glued_aux r y.cps
    simp only [List.drop_one, List.tail_cons, List.headD_cons]
    congr 1
    apply Array.toList_inj.mp
    rw [e]; simp [laid]
theorem sum_len_laid (ys : List Str) : (ys.map (·.length)).sum = (laid ys).length := by
  induction ys with
  | nil => rfl
  | cons y r ih => simp only [List.map_cons, List.sum_cons, ih, laid, List.flatten_cons, List.length_append, Array.length_toList]; rfl

section
variable {w : World} {p c : Addr} {code : Array Nat}

/-- all stands but D -/
def But (h h' : Heap) (D : Addr) : Prop := ∀ b o, b ≠ D → h.get? b = some o → h'.get? b = some o

theorem But.trans {h h' h'' : Heap} {D : Addr} (a : But h h' D) (b : But h' h'' D) : But h h'' D := fun x o n e => b x o n (a x o n e)

theorem push_piece {M : Model} {A : Around} {E : Value → Shared → Prop} {s : Shared} {D : Addr} {vs : List Value} {y : Value} {Q : Unit → Shared → Prop} (hl : s.heap.PlainList D vs.toArray) (hsz : vs.length ≤ 1000000)
    (h : ∀ h', h'.PlainList D (vs ++ [y]).toArray → But s.heap h' D → Q () { s with heap := h' }) : wpAny M A (updateSeq D (·.push y)) Q E s := by
  obtain ⟨n, ho⟩ := hl
  refine wpAny_updateSeq ho rfl (h _ ⟨n + 1, ?_⟩ fun b o hb e => ?_) (by simp only [List.size_toArray, sizeLine_eq]; omega) (by simp only [Array.size_push, List.size_toArray, sizeLine_eq]; omega)
  · rw [Heap.get?_update_self _ ho (by rw [Obj.mapSeq_push_plain]; rfl), Obj.mapSeq_push_plain]; simp
  · rw [Heap.get?_update_other _ _ (Ne.symm hb)]; exact e

theorem subLoop {A : Around} {x r : Str} {t u : Tok} {D : Addr} {base : Heap} {R : Result → Shared → Prop} (P : Pat w p c code) (X : (hk.heap_1 w.params).In base) (hD : base.get? D = none) (hx : x.cps.size ≤ 100000) (hr : r.length ≤ 2) {st : Nat} {out : List Nat} (S : SubFrom code x.cps r.cps.toList st out) :
    ∀ {n : Nat} {must : Bool} {s : Shared} {vs : List Value} {ys : List Str}, (∀ b o, base.get? b = some o → s.heap.get? b = some o) → s.heap.PlainList D vs.toArray → StrsAre vs ys → vs.length ≤ 4 * st → (laid ys).length ≤ 4 * st →
      (∀ h' tk' t', But s.heap h' D → R (.ok (.ret (.str ⟨(laid ys ++ out).toArray⟩ t'))) { s with heap := h', toks := tk' }) →
      codeAny (model PR w) A (.builtin "re.Pattern.sub.loop" (subArgs p x t r u n st must D)) R s := by
  induction S with
  | @last st hst hs =>
    intro n must s vs ys hk hDo hA hlen hsz hR
    refine builtin_code plain_loop entry_loop ?_
    show wpAny _ _ (Builtin.Re.reWholeTarget (.ref p) (.str x t) >>= _) _ _ s
    refine wpAny_bind (whole (X.keeps hk) P ?_)
    have e0 : ((st : Nat) : Int).toNat = st := Int.toNat_natCast st
    obtain ⟨hh, g, d, tk, os⟩ := s
    have hs' : Srch code x.cps ((st : Nat) : Int).toNat none := by rw [e0]; exact hs
    iterate 10 wp_step
    with_reducible refine nextFound (hit := none) hs' ?_
    dsimp only
    rw [e0]
    have fin : ∀ (h1 : Heap) (vs1 : List Value) (ys1 : List Str) (tk1 : Nat), h1.PlainList D vs1.toArray → StrsAre vs1 ys1 → vs1.length ≤ 1000000 → (laid ys1).length ≤ 1000000 →
        (∀ tk' t', R (.ok (.ret (.str ⟨(laid ys1).toArray⟩ t'))) ⟨h1, g, d, tk', os⟩) →
        wpAny (model PR w) A.in1 (do
          let joiner ← Builtin.Re.reSlice (target p x t code).text (target p x t code).kind 0 0
          let text ← if ((← seqItems? (.ref D)).getD #[]).isEmpty then pure joiner
            else call (.builtin (if (target p x t code).kind == 0 then "str.join" else "bytes.join")) [joiner, .ref D]
          if false then ret (← holding [text] do newTuple [text, ← mkInt n]) else ret text)
          (fun fin s' => match fin with | .done f => R (.ok f) s' | .again c' => c'.quiet = true ∧ codeAny (model PR w) A c' R s') (fun e s' => R (.error e) s') ⟨h1, g, d, tk1, os⟩ := by
      intro h1 vs1 ys1 tk1 hl hA1 hn1 hs1 hR1
      obtain ⟨k, ho⟩ := hl
      refine wpAny_bind (slice rfl (by show x.cps.size ≤ sizeLine; rw [sizeLine_eq]; omega) fun t1 tk1 => ?_)
      refine wpAny_bind (wpAny_seqItems ho rfl ?_)
      cases vs1 with
      | nil =>
        cases hA1
        exact wpAny_bind (wpAny_pure (wpAny_pure (by simpa [laid, target] using hR1 tk1 t1)))
      | cons v vs1 =>
        have e0l : (⟨(target p x t code).text.extract 0 0⟩ : Str).length = 0 := by show (Array.extract _ 0 0).size = 0; simp
        refine wpAny_bind (join_list ⟨_, ho, rfl, k, rfl⟩ hA1 (by rw [sum_len_laid, e0l, Nat.mul_zero]; omega) fun t' k' => wpAny_pure ?_)
        dsimp only
        have ee : (⟨(target p x t code).text.extract 0 0⟩ : Str) = ⟨#[]⟩ := by simp
        rw [ee, join_empty]
        exact hR1 k' t'
    by_cases hlt : st < (target p x t code).lim
    · rw [if_pos hlt]
      replace hlt : st < x.cps.size := hlt
      refine wpAny_bind (slice rfl (by show x.cps.size ≤ sizeLine; rw [sizeLine_eq]; omega) fun t1 tk1 => ?_)
      refine wpAny_bind (push_piece hDo (by omega) fun h1 hl1 hb1 => ?_)
      refine fin h1 _ _ _ hl1 (strsAre_snoc hA) (by simp; omega) (by rw [laid_snoc]; simp [target]; omega) fun tk' t' => ?_
      rw [laid_snoc]
      exact hR h1 tk' t' hb1
    · rw [if_neg hlt]
      have : st = x.cps.size := by have : ¬ st < x.cps.size := hlt; omega
      refine fin hh _ _ _ hDo hA (by omega) (by omega) fun tk' t' => ?_
      have e1 : laid ys ++ (x.cps.extract st x.cps.size).toList = laid ys := by rw [this]; simp
      rw [e1] at hR
      exact hR hh tk' t' fun _ _ _ e => e
  | @hit st b e rest hb he hn hs S' ih =>
    intro n must s vs ys hk hDo hA hlen hsz hR
    refine builtin_code plain_loop entry_loop ?_
    show wpAny _ _ (Builtin.Re.reWholeTarget (.ref p) (.str x t) >>= _) _ _ s
    refine wpAny_bind (whole (X.keeps hk) P ?_)
    have e0 : ((st : Nat) : Int).toNat = st := Int.toNat_natCast st
    obtain ⟨hh, g, d, tk, os⟩ := s
    have hs' : Srch code x.cps ((st : Nat) : Int).toNat (some (b, e)) := by rw [e0]; exact hs
    iterate 10 wp_step
    with_reducible refine nextFound (hit := some (b, e)) hs' ?_
    intro m hm1 hm2
    dsimp only
    rw [hm1, hm2, e0]
    have hee : (e == b) = false := by simpa using (Nat.ne_of_gt he)
    have hbx : b ≤ x.cps.size := by omega
    have hrl : r.cps.size ≤ 2 := hr
    by_cases hlt : st < b
    · rw [if_pos hlt]
      refine wpAny_bind (slice rfl (by show x.cps.size ≤ sizeLine; rw [sizeLine_eq]; omega) fun t1 tk1 => ?_)
      refine wpAny_bind (push_piece hDo (by omega) fun h1 hl1 hb1 => ?_)
      dsimp only
      iterate 4 wp_step
      refine wpAny_bind (push_piece hl1 (by simp; omega) fun h2 hl2 hb2 => ?_)
      refine wpAny_pure ⟨quiet_loop _, ?_⟩
      rw [hee]
      have hk2 : But hh h2 D := hb1.trans hb2
      refine ih (n := n + 1) (fun b' o q => hk2 b' o (fun z => by rw [z, hD] at q; cases q) (hk b' o q)) hl2 (strsAre_snoc (strsAre_snoc hA)) (by simp; omega) (by rw [laid_snoc, laid_snoc]; simp [target]; omega) fun h' tk' t' hb' => ?_
      rw [laid_snoc, laid_snoc]
      have := hR h' tk' t' (hk2.trans hb')
      rw [List.append_assoc, List.append_assoc]
      rw [List.append_assoc] at this
      exact this
    · have : b = st := by omega
      subst this
      rw [if_neg hlt]
      iterate 4 wp_step
      refine wpAny_bind (push_piece hDo (by omega) fun h2 hl2 hb2 => ?_)
      refine wpAny_pure ⟨quiet_loop _, ?_⟩
      rw [hee]
      refine ih (n := n + 1) (fun b' o q => hb2 b' o (fun z => by rw [z, hD] at q; cases q) (hk b' o q)) hl2 (strsAre_snoc hA) (by simp; omega) (by rw [laid_snoc]; simp; omega) fun h' tk' t' hb' => ?_
      rw [laid_snoc]
      have := hR h' tk' t' (hb2.trans hb')
      have e2 : (x.cps.extract b b).toList = [] := by simp
      rw [e2] at this
      simpa only [List.append_assoc, List.nil_append] using this
end
end
section
/- the part Rx8 -/
open PySem PySem.W PyProof.Rows PySem.Spec PySem.Calls
set_option maxRecDepth 100000

theorem sub_attrs : PlainAttrs "re.Pattern" :=
  ⟨⟨"object.__getattribute__", by rw [typeLookup_type, builtinLookup_eq_fast]; kernel_rfl, by decide +kernel⟩, by rw [typeLookup_type, builtinLookup_eq_fast]; kernel_rfl⟩
theorem sub_slot : Slot "re.Pattern" "sub" "re.Pattern.sub" :=
  .of (owner := "re.Pattern") (n := "sub") (by rw [typeLookup_type, builtinLookup_eq_fast]; kernel_rfl) (by decide +kernel) (by decide +kernel) (by decide +kernel)
    (by first | exact .inl (by decide +kernel) | exact .inr (by decide +kernel)) (by rw [isSubtype_type]; kernel_rfl)
theorem sub_type : typeOf (.builtin "re.Pattern.sub") = pure (.type "method_descriptor") := by show builtinType _ = _; rw [builtinType_eq_fast]; kernel_rfl
theorem sub_entry : entryFor table "re.Pattern.sub" = some Builtin.«re.Pattern.sub» := entryFor_of_tree (by kernel_rfl)
theorem sub_args (a b c : Value) : argsOk "re.Pattern.sub" ⟨[a, b, c], []⟩ := by
  unfold argsOk; kernel_rfl
theorem str_uncalled : typeLookup (.type "str") "__call__" = pure none := by rw [typeLookup_type, builtinLookup_eq_fast]; kernel_rfl

section
variable {w : World} {A : Around} {E : Value → Shared → Prop} {s : Shared} {p c : Addr} {code : Array Nat}

theorem sub_call {x r : Str} {t u : Tok} {Q : Value → Shared → Prop} {out : List Nat} (P : Pat w p c code) (X : (hk.heap_1 w.params).In s.heap) (hx : x.cps.size ≤ 100000) (hr : r.length ≤ 2) (hr' : r.cps.contains 92 = false) (S : SubFrom code x.cps r.cps.toList 0 out)
    (h : ∀ t', Kept s Yes (Q (.str ⟨out.toArray⟩ t'))) :
    wpAny (model PR w) A (call (.builtin "re.Pattern.sub") [.ref p, .str r u, .str x t]) Q E s := by
  have P' := P
  obtain ⟨a, b, hp⟩ := P'.pat
  have hp := X _ _ hp
  refine wpAny_call (codeAny_call_builtin sub_slot.plain sub_entry (sub_slot.check _ _ _ _ _ _ _ _ ⟨_, hp, rfl⟩ (sub_args _ _ _) ?_))
  have hty : typeOf (.str r u) = pure (.type "str") := rfl
  have hcall := str_uncalled
  show wpAny _ _ (Builtin.Re.reSubstitute "re.Pattern.sub" "sub" false _) _ _ _
  obtain ⟨hh, g, d, tk, os⟩ := s
  unfold Builtin.Re.reSubstitute
  have er : Builtin.Re.reNamed "re.Pattern.sub" "sub" ["repl", "string", "count"] 2 [.str r u, .str x t] [] = pure [some (.str r u), some (.str x t), none] := rfl
  dsimp only
  rw [er]
  iterate 5 wp_step
  refine wpAny_specialOf hty hcall ?_
  have ea : asStr? (.str r u) = pure (some r) := rfl
  rw [ea, if_neg (by decide)]
  iterate 4 wp_step
  simp only [hr', Bool.not_false, if_true]
  iterate 2 wp_step
  refine wpAny_pure ?_
  refine wpAny_bind (wpAny_holding (whole X P ?_))
  refine wpAny_bind (wpAny_newList ?_)
  refine wpAny_pure ⟨quiet_loop _, ?_⟩
  have hfresh : hh.get? hh.objs.size = none := Option.eq_none_iff_forall_ne_some.mpr fun o q => Nat.lt_irrefl _ (Heap.lt_size q)
  refine subLoop P X (D := hh.objs.size) (base := hh) hfresh hx hr S (n := 0) (vs := []) (ys := []) (fun b o q => Heap.get?_push_of_some _ q) ⟨0, Heap.get?_push_size _ rfl⟩ .nil (Nat.zero_le _) (Nat.zero_le _) fun h' tk' t' hb => ?_
  exact h t' h' tk' (fun b o q => hb b o (fun z => by rw [z, hfresh] at q; cases q) (Heap.get?_push_of_some _ q)) trivial
end
end
section
/- the part Rx9 -/
open PySem PySem.W PyProof.Rows PySem.Spec PySem.Calls
set_option maxRecDepth 100000

/-- line's ends made whole; cr: the sign before was a lone 13 -/
def nlFrom : Bool → List Nat → List Nat
  | _, [] => []
  | cr, c :: r => if c = 13 then 13 :: 10 :: nlFrom true r else if c = 10 then (if cr then nlFrom false r else 13 :: 10 :: nlFrom false r) else c :: nlFrom false r
/-- a dot at a line's start doubled; b: at a line's start -/
def dqFrom : Bool → List Nat → List Nat
  | _, [] => []
  | b, c :: r => if b = true ∧ c = 46 then 46 :: 46 :: dqFrom false r else c :: dqFrom (c == 10) r

theorem nlFrom_true : ∀ {l : List Nat}, l.head? ≠ some 10 → nlFrom true l = nlFrom false l
  | [], _ => rfl
  | c :: r, h => by
    have : ¬ c = 10 := fun e => h (by rw [e]; rfl)
    simp [nlFrom, this]

theorem drop_at {text : Array Nat} {q : Nat} (h : q < text.size) : text.toList.drop q = text.getD q 0 :: text.toList.drop (q + 1) := by
  rw [List.drop_eq_getElem_cons (by simpa using h)]
  congr 1
  simp [h]

theorem run_of {text : Array Nat} (f : Nat → List Nat) : ∀ {n p b : Nat}, n = b - p → p ≤ b → b ≤ text.size → (∀ q, p ≤ q → q < b → f q = text.getD q 0 :: f (q + 1)) → f p = (text.extract p b).toList ++ f b
  | 0, p, b, hn, hp, hb, hf => by
    have : p = b := by omega
    subst this; simp
  | n + 1, p, b, hn, hp, hb, hf => by
    rw [hf p (Nat.le_refl _) (by omega), run_of f (n := n) (p := p + 1) (b := b) (by omega) (by omega) hb fun q h1 h2 => hf q (by omega) h2]
    have e : (text.extract p b).toList = text.getD p 0 :: (text.extract (p + 1) b).toList := by
      rw [Array.toList_extract, Array.toList_extract, List.extract_eq_take_drop, List.extract_eq_take_drop, drop_at (by omega)]
      have : b - p = (b - (p + 1)) + 1 := by omega
      rw [this, List.take_succ_cons]
    rw [e]; rfl

def nlAt (text : Array Nat) (p : Nat) : List Nat := nlFrom false (text.toList.drop p)
def dqAt (text : Array Nat) (p : Nat) : List Nat := dqFrom (p == 0 || text.getD (p - 1) 0 == 10) (text.toList.drop p)

theorem nlAt_skip {text : Array Nat} {q : Nat} (h : q < text.size) (he : isEnd (text.getD q 0) = false) : nlAt text q = text.getD q 0 :: nlAt text (q + 1) := by
  unfold nlAt
  rw [drop_at h]
  simp only [isEnd, Bool.or_eq_false_iff, beq_eq_false_iff_ne] at he
  rw [nlFrom, if_neg he.2, if_neg he.1]
theorem nlAt_hit {text : Array Nat} {q : Nat} (h : q < text.size) (he : isEnd (text.getD q 0) = true) : nlAt text q = [13, 10] ++ nlAt text (q + endLen text q) := by
  unfold nlAt
  rw [drop_at h]
  simp only [isEnd, Bool.or_eq_true, beq_iff_eq] at he
  unfold endLen
  by_cases h13 : text.getD q 0 = 13
  · rw [h13, nlFrom, if_pos rfl]
    by_cases h2 : q + 1 < text.size
    · by_cases h10 : text.getD (q + 1) 0 = 10
      · simp only [h2, h10, beq_self_eq_true, decide_true, Bool.and_true, if_true]
        rw [drop_at h2, h10]
        simp [nlFrom]
      · have : (text.getD (q + 1) 0 == 10) = false := by simpa using h10
        simp only [this, Bool.and_false, Bool.false_eq_true, if_false]
        rw [nlFrom_true (by rw [drop_at h2]; simpa using h10)]
        rfl
    · simp only [h2, decide_false, Bool.and_false, Bool.false_and, Bool.false_eq_true, if_false]
      rw [List.drop_eq_nil_of_le (by simp; omega)]
      rfl
  · have h10 : text.getD q 0 = 10 := by omega
    rw [nlFrom, if_neg h13, if_pos h10, h10]
    rfl
theorem dqAt_skip {text : Array Nat} {q : Nat} (h : q < text.size) (he : hit1 text q = false) : dqAt text q = text.getD q 0 :: dqAt text (q + 1) := by
  unfold dqAt
  rw [drop_at h, dqFrom, if_neg (by simp only [hit1, Bool.and_eq_false_imp] at he; rintro ⟨h1, h2⟩; have := he h1; rw [h2] at this; cases this)]
  rfl
theorem dqAt_hit {text : Array Nat} {q : Nat} (h : q < text.size) (he : hit1 text q = true) : dqAt text q = [46, 46] ++ dqAt text (q + 1) := by
  unfold dqAt
  simp only [hit1, Bool.and_eq_true, beq_iff_eq] at he
  rw [drop_at h, dqFrom, if_pos he]
  show _ = [46, 46] ++ dqFrom (text.getD q 0 == 10) _
  rw [he.2]
  rfl

theorem at_end (text : Array Nat) : nlAt text text.size = [] ∧ dqAt text text.size = [] := by
  unfold nlAt dqAt
  rw [List.drop_eq_nil_of_le (by simp)]
  exact ⟨rfl, rfl⟩

theorem endLen_fits {text : Array Nat} {b : Nat} (h : b < text.size) : 0 < endLen text b ∧ b + endLen text b ≤ text.size := by
  unfold endLen
  by_cases hc : (text.getD b 0 == 13 && decide (b + 1 < text.size) && text.getD (b + 1) 0 == 10) = true
  · rw [if_pos hc]
    simp only [Bool.and_eq_true, decide_eq_true_eq] at hc
    omega
  · rw [if_neg hc]
    omega

theorem subFrom2 (text : Array Nat) : ∀ {n p : Nat}, text.size - p ≤ n → p ≤ text.size → SubFrom code2 text [13, 10] p (nlAt text p)
  | n, p, hn, hp => by
    by_cases hx : ∃ b, p ≤ b ∧ b < text.size ∧ isEnd (text.getD b 0) = true ∧ (∀ q, p ≤ q → q < b → isEnd (text.getD q 0) = false)
    · obtain ⟨b, h1, h2, h3, h4⟩ := hx
      have ⟨hlen, hle⟩ := endLen_fits h2
      rw [run_of (nlAt text) rfl h1 (Nat.le_of_lt h2) fun q q1 q2 => nlAt_skip (by omega) (h4 q q1 q2), nlAt_hit h2 h3, ← List.append_assoc]
      cases n with
      | zero => omega
      | succ n =>
        refine .hit h1 (by omega) hle (fun mA => ?_) (subFrom2 text (n := n) (by omega) hle)
        obtain ⟨k, hk, hc⟩ := forSearch2 text p mA hp
        refine ⟨k, by omega, ?_⟩
        rcases hc with ⟨b', g1, g2, g3, g4, g5⟩ | ⟨g, _⟩
        · have : b' = b := by
            rcases Nat.lt_trichotomy b' b with z | z | z
            · rw [h4 b' g1 z] at g3; cases g3
            · exact z
            · rw [g4 b h1 z] at h3; cases h3
          rw [this] at g5; exact g5
        · rw [g b h1 h2] at h3; cases h3
    · have hno : ∀ q, p ≤ q → q < text.size → isEnd (text.getD q 0) = false := by
        intro q
        induction q using Nat.strongRecOn with
        | _ q ih =>
          intro q1 q2
          cases hc : isEnd (text.getD q 0) with
          | false => rfl
          | true => exact absurd ⟨q, q1, q2, hc, fun q' z1 z2 => ih q' z2 z1 (by omega)⟩ hx
      rw [run_of (nlAt text) rfl hp (Nat.le_refl _) fun q q1 q2 => nlAt_skip q2 (hno q q1 q2), (at_end text).1, List.append_nil]
      refine .last hp fun mA => ?_
      obtain ⟨k, hk, hc⟩ := forSearch2 text p mA hp
      refine ⟨k, by omega, ?_⟩
      rcases hc with ⟨b', g1, g2, g3, g4, g5⟩ | ⟨_, g⟩
      · rw [hno b' g1 g2] at g3; cases g3
      · exact g

theorem subFrom1 (text : Array Nat) (hsz : text.size ≤ 100000) : ∀ {n p : Nat}, text.size - p ≤ n → p ≤ text.size → SubFrom code1 text [46, 46] p (dqAt text p)
  | n, p, hn, hp => by
    by_cases hx : ∃ b, p ≤ b ∧ b < text.size ∧ hit1 text b = true ∧ (∀ q, p ≤ q → q < b → hit1 text q = false)
    · obtain ⟨b, h1, h2, h3, h4⟩ := hx
      rw [run_of (dqAt text) rfl h1 (Nat.le_of_lt h2) fun q q1 q2 => dqAt_skip (by omega) (h4 q q1 q2), dqAt_hit h2 h3, ← List.append_assoc]
      cases n with
      | zero => omega
      | succ n =>
        refine .hit h1 (Nat.lt_succ_self b) h2 (fun mA => ?_) (subFrom1 text hsz (n := n) (by omega) h2)
        obtain ⟨k, hk, hc⟩ := forSearch1 text p mA hp
        refine ⟨k, by omega, ?_⟩
        rcases hc with ⟨b', g1, g2, g3, g4, g5⟩ | ⟨g, _⟩
        · have : b' = b := by
            rcases Nat.lt_trichotomy b' b with z | z | z
            · rw [h4 b' g1 z] at g3; cases g3
            · exact z
            · rw [g4 b h1 z] at h3; cases h3
          rw [this] at g5; exact g5
        · rw [g b h1 h2] at h3; cases h3
    · have hno : ∀ q, p ≤ q → q < text.size → hit1 text q = false := by
        intro q
        induction q using Nat.strongRecOn with
        | _ q ih =>
          intro q1 q2
          cases hc : hit1 text q with
          | false => rfl
          | true => exact absurd ⟨q, q1, q2, hc, fun q' z1 z2 => ih q' z2 z1 (by omega)⟩ hx
      rw [run_of (dqAt text) rfl hp (Nat.le_refl _) fun q q1 q2 => dqAt_skip q2 (hno q q1 q2), (at_end text).2, List.append_nil]
      refine .last hp fun mA => ?_
      obtain ⟨k, hk, hc⟩ := forSearch1 text p mA hp
      refine ⟨k, by omega, ?_⟩
      rcases hc with ⟨b', g1, g2, g3, g4, g5⟩ | ⟨_, g⟩
      · rw [hno b' g1 g2] at g3; cases g3
      · exact g

/-- what quotedata makes of a text -/
def quoted (l : List Nat) : List Nat := dqFrom true (nlFrom false l)
end
section
/- the part Quo -/
open PySem PySem.W PyProof.Rows PySem.Spec PySem.Calls PySem.W.X
set_option maxRecDepth 100000
set_option pp.deepTerms false
set_option pp.deepTerms.threshold 8
theorem nlFrom_len : ∀ (b : Bool) (l : List Nat), (nlFrom b l).length ≤ 2 * l.length
  | _, [] => Nat.zero_le _
  | cr, c :: r => by
    have h1 := nlFrom_len true r
    have h2 := nlFrom_len false r
    unfold nlFrom
    repeat' split
    all_goals (simp only [List.length_cons]; omega)
theorem dqFrom_len : ∀ (b : Bool) (l : List Nat), (dqFrom b l).length ≤ 2 * l.length
  | _, [] => Nat.zero_le _
  | b, c :: r => by
    have h1 := dqFrom_len false r
    have h2 := dqFrom_len (c == 10) r
    unfold dqFrom
    split
    all_goals (simp only [List.length_cons]; omega)

theorem sub_method {w : World} {A : Around} {s : Shared} {E : Value → Shared → Prop} {p c : Addr} {code : Array Nat} {pl : Sem Bool} {Q : Value × List Value → Shared → Prop} (P : Pat w p c code) (X : (hk.heap_1 w.params).In s.heap) (h : Q (.builtin "re.Pattern.sub", [.ref p]) s) :
    wpAny (model PR w) A (getMethod (.ref p) "sub" pl) Q E s := by
  obtain ⟨a, b, hp⟩ := P.pat
  have hp := X _ _ hp
  exact getMethod_builtin ⟨_, hp, rfl⟩ sub_attrs sub_slot sub_type (fun a e => by cases e; exact ⟨_, hp, rfl⟩) h

section
variable {w : World} {A : Around} {s : Shared} {Q : Value → Shared → Prop} {E : Value → Shared → Prop}
theorem quote_text {x : Str} {t : Tok} (G : Gnd w s.heap) (hroom : A.depth < recursionLimit) (hx : x.cps.size ≤ 40000)
    (h : ∀ t', Kept s Yes (Q (.str ⟨(quoted x.cps.toList).toArray⟩ t'))) : wpAny (model PR w) A (call (.ref 174) [.str x t]) Q E s := by
  walk_at "mineFill"
  walk_at "mineGnd"
  refine wpAny_call ?_
  walk_at "mineLeaf"
  iterate 5 walk1
  refine sub_method (pat1 w) (G.X.keeps (Fr.keep ‹Fr _ _ _ _›)) ?_
  dsimp only
  iterate 6 walk1
  refine sub_method (pat2 w) (G.X.keeps (Fr.keep ‹Fr _ _ _ _›)) ?_
  dsimp only
  iterate 6 walk1
  have e1 : nlAt x.cps 0 = nlFrom false x.cps.toList := rfl
  have l1 := nlFrom_len false x.cps.toList
  rw [← e1, Array.length_toList (xs := x.cps)] at l1
  have l2 : (nlAt x.cps 0).toArray.size ≤ 100000 := by rw [List.size_toArray]; omega
  refine sub_call (out := nlAt x.cps 0) (pat2 w) (G.X.keeps (Fr.keep ‹Fr _ _ _ _›)) (by omega) (by decide) (by decide +kernel) (subFrom2 x.cps (n := x.cps.size) (Nat.le_refl _) (Nat.zero_le _)) fun t2 h2 tk2 hk2 _ => ?_
  obtain ⟨F2, N2⟩ := kept_frame hk2 ‹Fr _ _ _ _› ‹News _ _ _ _›
  dsimp only
  iterate 1 walk1
  refine sub_call (out := dqAt (nlAt x.cps 0).toArray 0) (pat1 w) (G.X.keeps (Fr.keep ‹Fr _ _ _ _›)) l2 (by decide) (by decide +kernel) (subFrom1 (nlAt x.cps 0).toArray l2 (n := (nlAt x.cps 0).toArray.size) (Nat.le_refl _) (Nat.zero_le _)) fun t3 h3 tk3 hk3 _ => ?_
  exact h t3 h3 tk3 (fun b o q => hk3 b o (F2.keep b o q)) trivial
end
end
section
/- the part Acc0 -/
open PySem PySem.W PyProof.Rows PySem.Spec PySem.Calls PySem.W.X
set_option maxRecDepth 100000
set_option maxHeartbeats 1000000
set_option pp.deepTerms false
set_option pp.deepTerms.threshold 8

abbrev accObj (d : Addr) (vs : Array Value) (n : Nat) : Obj := { cls := .ref 153, dict := some d, data := .seq vs n }

theorem ln_kind : builtinKind "list.__new__" = some .builtinFn := by decide +kernel
theorem ln_split : splitId "list.__new__" = some ("list", "__new__") := by decide +kernel
theorem ln_quiet : ("list.__new__" : String).startsWith "lifetime." = false := by decide +kernel
theorem ln_sig : ∃ sig, Manifest.signature? "list.__new__" = some sig ∧ Bind.checkArgs "list.__new__" sig ⟨[.ref 153], []⟩ = pure () := by
  cases h : Manifest.signature? "list.__new__" with
  | none => exact absurd h (by decide +kernel)
  | some sig =>
    refine ⟨sig, rfl, ?_⟩
    have : argsOk "list.__new__" ⟨[.ref 153], []⟩ := by unfold argsOk; kernel_rfl
    unfold argsOk at this; rw [h] at this; exact this
section
variable {w : World} {A : Around} {R : Result → Shared → Prop} {h : Heap} {g : Array GenState} {d : Drawn} {t : Nat} {os : OsState}

theorem acc_made (X : (hk.heap_1 w.params).In h) : Looks (model PR w) h (Bind.madeBy (.ref 153)) (some "list.__new__") := by
  obtain ⟨oc, od, cd, sl, ho, hmr, hsl⟩ : ∃ oc od cd sl, (hk.heap_1 w.params).lookup 153 = some ⟨oc, od, .cls cd, sl⟩ ∧ cd.mro = [.ref 153, .type "list", .type "object"] ∧ (sl.toList[4]?).join = some (.builtin "list.__new__") := ⟨_, _, _, _, rfl, rfl, rfl⟩
  have hc : clsIn (hk.heap_1 w.params) 153 = some cd := by unfold clsIn; rw [ho]
  have hm : Looks (model PR w) h (mroOf (.ref 153)) cd.mro := (looks_clsIn X hc).andThen .now
  intro A Q E s k q
  unfold Bind.madeBy
  refine wpAny_bind (hm A _ E s k ?_)
  rw [hmr, List.forIn_cons]
  refine wpAny_bind (wpAny_bind (wpAny_bind (wpAny_bind (wpAny_loadPart (k _ _ (X _ _ ho)) (wpAny_pure ?_)))))
  dsimp only
  rw [← Array.getElem?_toList, hsl]
  exact wpAny_pure (wpAny_pure (wpAny_pure q))

theorem make_list (X : (hk.heap_1 w.params).In h) 
    (hq : codeAny (model PR w) (A.under (.builtin "type.__call__" ⟨[.ref 153], []⟩)) (.call (.ref 90) ⟨[.ref (h.objs.size + 1)], []⟩) (InitBack (h.objs.size + 1) R) ⟨(h.push emptyDict).push (accObj h.objs.size #[] 0), g, d, t, os⟩) :
    codeAny (model PR w) A (.call (.ref 153) ⟨[], []⟩) R ⟨h, g, d, t, os⟩ := by
  obtain ⟨oc, od, cd, sl, ho, e1, e2, e4⟩ : ∃ oc od cd sl, (hk.heap_1 w.params).lookup 153 = some ⟨oc, od, .cls cd, sl⟩ ∧ cd.abstract = false ∧ cd.hasDel = false ∧ cd.mro.isEmpty = false := ⟨_, _, _, _, rfl, rfl, rfl, rfl⟩
  have hC := X _ _ ho
  have hc : clsIn (hk.heap_1 w.params) 153 = some cd := by unfold clsIn; rw [ho]
  have made := acc_made (w := w) X
  have call := looks_specialIn (M := model PR w) (name := "__call__") (v := .ref 153) (r := some (.builtin "type.__call__")) X (by kernel_rfl)
  have typ := looks_instIn (M := model PR w) (v := .ref 153) (base := .type "type") (r := true) X (by kernel_rfl)
  refine codeAny_of_tree ?_
  show wpAny _ _ (callAny (.ref 153) _) _ _ _
  refine nd_load hC ?_
  show wpAny _ _ (callAny.viaDunder (.ref 153) _) _ _ _
  unfold callAny.viaDunder
  refine wpAny_bind (call.at ?_)
  dsimp only
  rw [tc_bind]
  refine wpAny_bind (wpAny_pure (wpAny_bind (wpAny_pure ?_)))
  refine wpAny_pure (a := Fin.again (.call (.builtin "type.__call__") ⟨[.ref 153], []⟩)) (And.intro rfl ?_)
  refine codeAny_call_builtin_at (Code.quiet_builtin _ (by decide +kernel)) entry_typeCall (check_slot tc_kind tc_split typ (tc_args _ _ _) ?_)
  unfold Builtin.«type.__call__»
  have hm : Looks (model PR w) h (mroOf (.ref 153)) cd.mro := (looks_clsIn X hc).andThen .now
  repeat (first | simp only [e4, Bool.false_eq_true, if_false] | with_reducible refine wpAny_call ?_ | lk)
  have hsub : Looks (model PR w) h (isSubtype (.ref 153) (.type "list")) true := looks_mroIn X (by kernel_rfl)
  have hty : Looks (model PR w) h (isType (.ref 153)) true := fun A Q E s k q => by
    unfold isType
    exact wpAny_bind (wpAny_load (k _ _ hC) (wpAny_pure q))
  have base : Looks (model PR w) h (Bind.staticBase (.ref 153)) (.ref 153) := by
    intro A Q E s k q
    unfold Bind.staticBase
    refine wpAny_bind (hm A _ E s k ?_)
    cases hl : cd.mro with
    | nil => rw [hl] at e4; cases e4
    | cons c l =>
      rw [List.forIn_cons]
      exact wpAny_bind (wpAny_bind (wpAny_bind (made A _ E s k (wpAny_pure (wpAny_pure (wpAny_pure q))))))
  obtain ⟨sig, hs1, hs2⟩ := ln_sig
  refine codeAny_call_builtin_code (Code.quiet_builtin _ ln_quiet) ?_
  simp only [checkBuiltinCall, ln_kind, ln_split, hs1, hs2]
  repeat (first | simp only [bne_self_eq_false, Bool.false_eq_true, if_false] | lk)
  refine codeAny_builtin_stack F.entry_list_new rfl fun p st => ?_
  rw [Around.under_plainId F.plain_list_new _]
  have hown := owner_list_new
  simp only [hown]
  repeat lk
  have k : ∀ b o, h.get? b = some o → ((h.push emptyDict).push (accObj h.objs.size #[] 0)).get? b = some o := fun b o e => Heap.get?_push_of_some _ (Heap.get?_push_of_some _ e)
  refine wpAny_load (k _ _ hC) ?_
  dsimp only
  rw [e2]
  refine wpAny_pure (wpAny_pure (wpAny_pure ?_))
  dsimp only
  rw [Heap.size_push]
  have hx : ((h.push emptyDict).push (accObj h.objs.size #[] 0)).get? (h.objs.size + 1) = some (accObj h.objs.size #[] 0) := by heap_get
  have t1 : Looks (model PR w) ((h.push emptyDict).push (accObj h.objs.size #[] 0)) (typeOf (.ref (h.objs.size + 1))) (.ref 153) := (Looks.ld hx).andThen .now
  have s1 : Looks (model PR w) ((h.push emptyDict).push (accObj h.objs.size #[] 0)) (isSubtype (.ref 153) (.ref 153)) true := (looks_mroIn X (by kernel_rfl)).keeps k
  have i1 : Looks (model PR w) ((h.push emptyDict).push (accObj h.objs.size #[] 0)) (typeLookup (.ref 153) "__init__") (some (.ref 90)) := (looks_findIn X (by kernel_rfl)).keeps k
  have b1 := (bind_fn (M := model PR w) X (f := 90) (.ref (h.objs.size + 1)) (by kernel_rfl)).keeps k
  unfold isInstance callSpecial? specialOf
  repeat (first | with_reducible refine wpAny_call ?_ | lk)
  refine codeAny_mono hq fun r s' z => ?_
  rcases r with e | (v | _ | _ | _) <;> first | exact z | exact z.elim | skip
  obtain ⟨rfl, z⟩ := z
  exact wpAny_pure (wpAny_pure z)
end
/-- enter a def of the written part that closes over __class__: no exception leaves it; the base chosen -/
theorem leafS {w : World} {A : Around} {R : Result → Shared → Prop} {s : Shared} {h₀ : Heap} {news : List (Addr × Obj)} {K : Frag} {p : Program} {loose : List Str} {mean : ExcName → Option Value} {mg mb : Str → Option Value}
    {name qual : Str} {params : Arguments} {body : List Stmt} {scope : Scope} {dV kV doc pm cdv ct oc : Value} {an od : Option Addr} {osl : Array (Option Value)} {f cc : Addr} {args : Args} {binds : List (Str × Value)}
    (X : K.In s.heap) (T : Top p loose mean mg mb s.heap) (hk0 : ∀ b o, h₀.get? b = some o → s.heap.get? b = some o) (hsz : h₀.objs.size ≤ s.heap.objs.size) (hn : ∀ p ∈ news, s.heap.get? p.1 = some p.2 ∧ h₀.get? p.1 = none)
    (ho : K.lookup f = some ⟨oc, od, .func (ksFn name qual params body scope dV kV doc pm an cdv ct cc), osl⟩) (hcd : codeIn K cdv qual = true) (hroom : A.depth < recursionLimit)
    (hbind : BindsTo s (ksFn name qual params body scope dV kV doc pm an cdv ct cc) args binds) (hloc : ∀ y ∈ binds, scope.names.lookup y.1 = some .local)
    (h : ∀ h₁, Fr h₀ s.heap.objs.size h₁ (fun y => binds.reverse.lookup y) → News h₀ s.heap.objs.size h₁ news → (∀ p ∈ news, p.1 < s.heap.objs.size) →
      _root_.PySem.wpAt (model PR w) (A.deeper (ksEnv qual scope s.heap.objs.size f cdv cc)) (.func body (ksEnv qual scope s.heap.objs.size f cdv cc)) (execs body (ksEnv qual scope s.heap.objs.size f cdv cc))
        (fun fl s' => R (.ok (.ret (match fl with | .ret v => v | _ => .none))) s') (fun _ _ => False)
        { s with heap := h₁, toks := s.toks + binds.length })
    (hco : scope.isCoroutine = false) (hgen : scope.isGenerator = false) (hk : scope.kind = .function) (hcell : ∀ x ∈ scope.names, x.2 ≠ .cell) :
    codeAny (model PR w) A (.call (.ref f) args) R s :=
  ks_codeAny_call_defAt (fd := ksFn name qual params body scope dV kV doc pm an cdv ct cc) (body := body) (binds := binds) hroom (X _ _ ho) rfl T.nolimit (codeRec_of X hcd) rfl hbind hcell hloc
    (fun h₁ hns hk₁ => ks_wpAt_mono (h h₁ ⟨hns, fun b o e => hk₁ b o (hk0 b o e), hsz⟩ (fun p hp => ⟨hk₁ _ _ (hn p hp).1, Nat.ne_of_lt (Heap.lt_size (hn p hp).1), (hn p hp).2⟩) fun p hp => Heap.lt_size (hn p hp).1) (fun _ _ x => x) (fun _ _ x => x.elim)) hco hgen hk
theorem leafB {w : World} {A : Around} {R : Result → Shared → Prop} {s : Shared} {h₀ : Heap} {news : List (Addr × Obj)} {K : Frag} {p : Program} {loose : List Str} {mean : ExcName → Option Value} {mg mb : Str → Option Value}
    {name qual : Str} {params : Arguments} {body : List Stmt} {scope : Scope} {dV kV doc pm cdv ct oc : Value} {an od : Option Addr} {osl : Array (Option Value)} {f : Addr} {args : Args} {binds : List (Str × Value)}
    (X : K.In s.heap) (T : Top p loose mean mg mb s.heap) (hk0 : ∀ b o, h₀.get? b = some o → s.heap.get? b = some o) (hsz : h₀.objs.size ≤ s.heap.objs.size) (hn : ∀ p ∈ news, s.heap.get? p.1 = some p.2 ∧ h₀.get? p.1 = none)
    (ho : K.lookup f = some ⟨oc, od, .func (fnOf name qual params body scope dV kV doc pm an cdv ct), osl⟩) (hcd : codeIn K cdv qual = true) (hroom : A.depth < recursionLimit)
    (hbind : BindsTo s (fnOf name qual params body scope dV kV doc pm an cdv ct) args binds) (hloc : ∀ y ∈ binds, scope.names.lookup y.1 = some .local)
    (h : ∀ h₁, Fr h₀ s.heap.objs.size h₁ (fun y => binds.reverse.lookup y) → News h₀ s.heap.objs.size h₁ news → (∀ p ∈ news, p.1 < s.heap.objs.size) →
      wpAny (model PR w) (A.deeper (envOf qual scope s.heap.objs.size f cdv)) (execs body (envOf qual scope s.heap.objs.size f cdv))
        (fun fl s' => R (.ok (.ret (match fl with | .ret v => v | _ => .none))) s') (fun _ _ => False)
        { s with heap := h₁, toks := s.toks + binds.length })
    (hco : scope.isCoroutine = false) (hgen : scope.isGenerator = false) (hk : scope.kind = .function) (hcell : ∀ x ∈ scope.names, x.2 ≠ .cell) :
    codeAny (model PR w) A (.call (.ref f) args) R s :=
  codeAny_call_def (fd := fnOf name qual params body scope dV kV doc pm an cdv ct) (body := body) (binds := binds) hroom (X _ _ ho) rfl T.nolimit (codeRec_of X hcd) rfl hbind hcell hloc
    (fun h₁ hns hk₁ => wpAny_mono (h h₁ ⟨hns, fun b o e => hk₁ b o (hk0 b o e), hsz⟩ (fun p hp => ⟨hk₁ _ _ (hn p hp).1, Nat.ne_of_lt (Heap.lt_size (hn p hp).1), (hn p hp).2⟩) fun p hp => Heap.lt_size (hn p hp).1) (fun _ _ x => x) (fun _ _ x => x.elim)) hco hgen hk

theorem list_no_setattr : classOwn (.type "list") "__setattr__" = pure none := by kernel_rfl
theorem refuse_list (self : Value) : refuseLoop self "__setattr__" [.ref 153, .type "list", .type "object"] = pure () := by
  rw [refuseLoop_ref]
  have h := PySem.F.store_object.passes self
  unfold refuseLoop at h ⊢
  rw [List.forIn_cons]
  rw [list_no_setattr]
  exact h

section
variable {w : World} {A : Around} {R : Result → Shared → Prop} {s : Shared} {x : Addr} {h₀ : Heap} {L : Addr} {m : Str → Option Value} {news : List (Addr × Obj)}

theorem osa_acc {ox od od' : Obj} {dx : Addr} {name : Str} {tk : Tok} {v : Value} {pre post : List (Addr × Obj)} {es : List DictEntry} {n : Nat} (F : Fr h₀ L s.heap m) (N : News h₀ L s.heap (pre ++ (dx, od) :: post)) (X : (hk.heap_1 w.params).In s.heap)
    (I : InstAt s.heap x ox 153 (some od)) (hd : ox.dict = some dx) (ht : takerIn (hk.heap_1 w.params) 153 name = some none)
    (hl : (lookIn name od).isSome = true) (h1 : ∀ p ∈ pre, p.1 ≠ dx) (h2 : ∀ p ∈ post, p.1 ≠ dx)
    (e : Obj.putName name (PyData.keyHash w.params name) (.str name s.toks) v od = od') (e' : od'.data = .dict es.toArray n) (hz : es.length ≤ 1000)
    (h : ∀ h', Fr h₀ L h' m → News h₀ L h' (pre ++ (dx, od') :: post) → R (.ok (.ret .none)) { s with heap := h', toks := s.toks + 1 }) :
    codeAny (model PR w) A (.call (.builtin "object.__setattr__") ⟨[.ref x, .str name tk, v], []⟩) R s := by
  have SF := PySem.F.store_object
  obtain ⟨cd, hc, hmr, hd'⟩ : ∃ cd, clsIn (hk.heap_1 w.params) 153 = some cd ∧ cd.mro = [.ref 153, .type "list", .type "object"] ∧ cd.hasDict = true := ⟨_, rfl, rfl, rfl⟩
  have sub : Looks (model PR w) s.heap (isInstance (.ref x) (.type "object")) true := I.type.andThen (looks_mroIn X (by kernel_rfl))
  refine codeAny_call_builtin SF.slot.plain SF.entry (@check_slot (model PR w) _ _ s "object.__setattr__" "object" "__setattr__" (.ref x) [.str name tk, v] [] _ SF.kind SF.split sub (SF.args (.ref x) (.str name tk) v) ?_)
  obtain ⟨attr, ha, hr⟩ := Option.bind_eq_some_iff.mp ht
  have hm : Looks (model PR w) s.heap (mroOf (.ref 153)) cd.mro := (looks_clsIn X hc).andThen .now
  have L3 : Looks (model PR w) s.heap (Builtin.ObjectAttr.storeTaker? attr) none := by
    cases attr with
    | none => exact .now
    | some a =>
      obtain ⟨b, hb, hb2⟩ := Option.map_eq_some_iff.mp hr
      refine (looks_takesIn X hb).andThen ?_
      cases b
      · exact .now
      · cases hb2
  rw [osa_eq, refuse_eq]
  refine wpAny_bind (wpAny_bind (I.type.here (wpAny_bind (hm.here ?_))))
  rw [hmr, refuse_list]
  refine wpAny_pure (wpAny_bind (I.type.here (wpAny_bind ((looks_findIn X ha).here (wpAny_bind (L3.here ?_))))))
  obtain ⟨U1, U2⟩ := news_upd (f := Obj.putName name (PyData.keyHash w.params name) (.str name s.toks) v) F N h1 h2 e (by obtain ⟨_, _, dd, _⟩ := od'; cases e'; rfl)
  have D := (N (dx, od) (by simp)).1
  have D' := (U2 (dx, od') (by simp)).1
  obtain ⟨hx, hcl, hn, -⟩ := I
  obtain ⟨oc, odi, oda, osl⟩ := ox
  dsimp only at hcl hd
  subst hcl hd
  refine wpAny_bind (wpAny_pure (wpAny_bind (wpAny_bind (wpAny_loadPart hx (wpAny_bind ((looks_clsIn X hc).here ?_))))))
  rw [hd']
  refine wpAny_pure (a := some dx) (wpAny_bind (wpAny_pure (wpAny_bind ?_)))
  unfold nsSet
  refine wpAny_bind (wpAny_bind (wpAny_askSetting (wpAny_pure (wpAny_bind (wpAny_mkText (wpAny_bind (wpAny_loadPart D ?_)))))))
  unfold lookIn at hl
  split at hl
  · rename_i es₀ n₀ q
    rw [q]
    dsimp only
    have c : (!es₀.any (·.key.isStr name) && es₀.any (·.refKey)) = false := by
      rw [← Array.any_toList, ← Array.any_toList]
      split at hl
      · rename_i en he
        rw [List.any_eq_true.mpr ⟨en, List.mem_of_find?_eq_some he, List.find?_some he⟩]; rfl
      · split at hl
        · cases hl
        · rename_i z; rw [Bool.not_eq_true] at z; rw [z, Bool.and_false]
    rw [aRefKeyMayBeTheName_at, c]
    refine wpAny_updatePart D ?_
    refine wpAny_bind (wpAny_lookBehind D' (by rw [e']; exact pastItsLine_dict (by rw [List.size_toArray, sizeLine_eq]; omega)) ?_)
    exact wpAny_pure (h _ U1 U2)
  · cases hl
end
end
section
/- the part Acc2 -/
open PySem PySem.W PyProof.Rows PySem.Spec PySem.Calls PySem.W.X
set_option maxRecDepth 100000
set_option pp.deepTerms false
set_option pp.deepTerms.threshold 8

theorem wd_lookup : typeLookup (.type "wrapper_descriptor") "__get__" = pure (some (.builtin "wrapper_descriptor.__get__")) := by rw [typeLookup_type, builtinLookup_eq_fast]; kernel_rfl
theorem li_type : typeOf (.builtin "list.__init__") = pure (.type "wrapper_descriptor") := by show builtinType _ = _; rw [builtinType_eq_fast]; kernel_rfl
theorem ll_type : typeOf (.builtin "list.__len__") = pure (.type "wrapper_descriptor") := by show builtinType _ = _; rw [builtinType_eq_fast]; kernel_rfl
section
variable {prog : Program} {w : World} {A : Around} {E : Value → Shared → Prop} {h : Heap} {g : Array GenState} {d : Drawn} {t : Nat} {os : OsState}

theorem super_ga {so D x C : Addr} {id : String} {l₀ l : List Value} {K : Frag} {name : Str} {tk : Tok} {Q : Fin → Shared → Prop}
    (hso : h.get? so = some { cls := .type "super", dict := none, data := .fields #[.ref D, .ref x, .ref C], slots := #[] }) (hno : Looks (model prog w) h (opaqueClassAbove (.ref C)) none)
    (hC : Looks (model prog w) h (mroOf (.ref C)) l₀) (hl : (l₀.dropWhile (· != .ref D)).drop 1 = l) (X : K.In h)
    (hf : alongIn K name l = some (some (.builtin id))) (hty : typeOf (.builtin id) = pure (.type "wrapper_descriptor")) (hxC : x ≠ C) (hn : (name == ("__class__" : Str)) = false)
    (hq : codeAny (model prog w) A (.call (.builtin "wrapper_descriptor.__get__") ⟨[.builtin id, .ref x, .ref C], []⟩) (fun r s' => match r with | .ok (.ret v) => Q (.done (.ret v)) s' | .ok _ => False | .error e => E e s') ⟨h, g, d, t, os⟩) :
    wpAny (model prog w) A (Builtin.«super.__getattribute__» ⟨[.ref so, .str name tk], []⟩) Q E ⟨h, g, d, t, os⟩ := by
  have hlk := wd_lookup
  have hne : (Value.ref x == Value.ref C) = false := by simp [hxC]
  have hdt : ({ cls := .type "super", dict := none, data := .fields #[.ref D, .ref x, .ref C], slots := #[] } : Obj).data = .fields #[.ref D, .ref x, .ref C] := rfl
  have f0 : (#[.ref D, .ref x, .ref C] : Array Value)[0]? = some (.ref D) := rfl
  have f1 : (#[.ref D, .ref x, .ref C] : Array Value)[1]? = some (.ref x) := rfl
  have f2 : (#[.ref D, .ref x, .ref C] : Array Value)[2]? = some (.ref C) := rfl
  unfold Builtin.«super.__getattribute__»
  repeat (first
    | (with_reducible refine wpAny_field hso hdt f0 ?_) | (with_reducible refine wpAny_field hso hdt f1 ?_) | (with_reducible refine wpAny_field hso hdt f2 ?_)
    | (with_reducible refine ks_wpAny_notOpaque hno ?_)
    | (with_reducible refine Looks.at hC ?_; rw [hl])
    | (refine ks_forIn_along X (fun _ _ => rfl) rfl ?_ hf)
    | (with_reducible refine wpAny_of_eq hty ?_)
    | (simp only [hn, hne, Bool.or_false, Bool.false_eq_true, if_false])
    | wp_step
    | dsimp only)
  refine codeAny_mono hq fun r s' z => ?_
  rcases r with e | (v | _ | _ | _) <;> first | exact z.elim | exact z | skip
  exact wpAny_bind (wpAny_pure (wpAny_pure (wpAny_pure z)))

theorem getMethod_super {so D x C : Addr} {id : String} {l₀ l : List Value} {K : Frag} {name : Str} {pl : Sem Bool} {Q : Value × List Value → Shared → Prop}
    (hso : h.get? so = some { cls := .type "super", dict := none, data := .fields #[.ref D, .ref x, .ref C], slots := #[] }) (hno : Looks (model prog w) h (opaqueClassAbove (.ref C)) none)
    (hC : Looks (model prog w) h (mroOf (.ref C)) l₀) (hl : (l₀.dropWhile (· != .ref D)).drop 1 = l) (X : K.In h)
    (hf : alongIn K name l = some (some (.builtin id))) (hty : typeOf (.builtin id) = pure (.type "wrapper_descriptor")) (hxC : x ≠ C) (hn : (name == ("__class__" : Str)) = false)
    (hq : codeAny (model prog w) A.in1 (.call (.builtin "wrapper_descriptor.__get__") ⟨[.builtin id, .ref x, .ref C], []⟩) (fun r s' => ∃ q : Addr, r = .ok (.ret (.ref q)) ∧ Q (.ref q, []) s') ⟨h, g, d, t + 1, os⟩) :
    wpAny (model prog w) A (getMethod (.ref so) name pl) Q E ⟨h, g, d, t, os⟩ := by
  have hlk := F.ks_slot_super_ga.lookup
  have hcan := F.ks_canon_super_ga
  have hT : ∀ t', (⟨h, g, d, t', os⟩ : Shared).TypeIs (.ref so) "super" := fun _ => ⟨_, hso, rfl⟩
  unfold getMethod
  refine wpAny_bind (wpAny_specialOf (hT _) hlk ?_)
  show wpAny _ _ (if (Manifest.canonical "super.__getattribute__" != "object.__getattribute__") = true then _ else _) _ _ _
  rw [if_pos hcan]
  unfold getAttr getAttrBy
  refine wpAny_bind (wpAny_bind (wpAny_mkText (wpAny_holding (wpAny_bind (wpAny_typeOf (hT _) (wpAny_bind (wpAny_of_eq hlk ?_)))))))
  show wpAny _ _ (getAttrByItsOwn (.ref so) (.str name t) (.type "super") (.builtin "super.__getattribute__") true false) _ _ _
  unfold getAttrByItsOwn hookBefore callGetattribute boundAndCalled
  refine wpAny_bind (wpAny_of_eq (show (if onTheHeap (.type "super") then typeLookup (.type "super") "__getattr__" else pure none) = pure none from rfl) ?_)
  refine wpAny_bind (wpAny_attempt (wpAny_holding ?_))
  show wpAny _ _ (bindSpecial (.builtin "super.__getattribute__") (.ref so) >>= _) _ _ _
  refine wpAny_bind (wpAny_of_eq (F.ks_slot_super_ga.bind _) ?_)
  refine wpAny_mono (Q := fun v s' => ∃ q : Addr, v = .ref q ∧ Q (.ref q, []) s') (E := fun _ _ => False)
    (wpAny_call_entry F.ks_slot_super_ga (hT _) F.ks_entry_super_ga (super_ga hso hno hC hl X hf hty hxC hn (codeAny_mono hq fun r s' z => ?_)) (F.ks_gaArgs_super _ _)) (fun v s' hv => ?_) fun _ _ z => z.elim
  · obtain ⟨q, rfl, z⟩ := z
    exact ⟨_, rfl, q, rfl, z⟩
  · obtain ⟨q, rfl, hv⟩ := hv
    exact wpAny_pure (wpAny_pure hv)
end

section
variable {w : World} {A : Around} {E : Value → Shared → Prop} {R : Result → Shared → Prop} {h : Heap} {g : Array GenState} {d : Drawn} {t : Nat} {os : OsState}
theorem wd_slot : Slot "wrapper_descriptor" "__get__" "wrapper_descriptor.__get__" :=
  .of (owner := "wrapper_descriptor") (n := "__get__") wd_lookup (by decide +kernel) (by decide +kernel) (by decide +kernel)
    (by first | exact .inl (by decide +kernel) | exact .inr (by decide +kernel)) (by rw [isSubtype_type]; kernel_rfl)
theorem wd_entry : entryFor table "wrapper_descriptor.__get__" = some Builtin.«wrapper_descriptor.__get__» := entryFor_of_tree (by kernel_rfl)
theorem wd_args (a b c : Value) : argsOk "wrapper_descriptor.__get__" ⟨[a, b, c], []⟩ := by unfold argsOk; kernel_rfl
abbrev mwObj (id : String) (x : Addr) : Obj := { cls := .type "method-wrapper", data := .fields #[.builtin id, .ref x] }
theorem castL {M : Model} {v c c' : Value} {r : Bool} (L : Looks M h (isInstance v c) r) (e : c = c') : Looks M h (isInstance v c') r := e ▸ L
theorem wd_get_init {x : Addr} {vs : Array Value} {n : Nat} {dx : Addr} (X : (hk.heap_1 w.params).In h) (hx : h.get? x = some (accObj dx vs n))
    (hq : R (.ok (.ret (.ref h.objs.size))) ⟨h.push (mwObj "list.__init__" x), g, d, t, os⟩) :
    codeAny (model PR w) A (.call (.builtin "wrapper_descriptor.__get__") ⟨[.builtin "list.__init__", .ref x, .ref 153], []⟩) R ⟨h, g, d, t, os⟩ := by
  refine codeAny_call_builtin wd_slot.plain wd_entry (wd_slot.check _ _ _ _ _ _ _ _ li_type (wd_args _ _ _) ?_)
  unfold Builtin.«wrapper_descriptor.__get__»
  have i1 : Looks (model PR w) h (isInstance (.ref x) (.type "list")) true := ((Looks.ld hx).andThen .now).andThen (looks_mroIn X (by kernel_rfl))
  refine wpAny_bind (wpAny_of_eq (a := (.builtin "list.__init__", some (.ref x), some (.ref 153))) rfl ?_)
  dsimp only
  refine wpAny_bind ?_
  refine wpAny_bind ?_
  refine wpAny_of_eq (a := (("__init__" : Str), Value.type "list")) (by kernel_rfl) ?_
  dsimp only
  refine wpAny_bind (i1.here ?_)
  refine wpAny_pure (wpAny_bind ?_)
  unfold newFields newObj
  repeat (first | simp only [Bool.false_eq_true, if_false] | lk)
  exact hq
theorem wd_get_len {x : Addr} {vs : Array Value} {n : Nat} {dx : Addr} (X : (hk.heap_1 w.params).In h) (hx : h.get? x = some (accObj dx vs n))
    (hq : R (.ok (.ret (.ref h.objs.size))) ⟨h.push (mwObj "list.__len__" x), g, d, t, os⟩) :
    codeAny (model PR w) A (.call (.builtin "wrapper_descriptor.__get__") ⟨[.builtin "list.__len__", .ref x, .ref 153], []⟩) R ⟨h, g, d, t, os⟩ := by
  refine codeAny_call_builtin wd_slot.plain wd_entry (wd_slot.check _ _ _ _ _ _ _ _ ll_type (wd_args _ _ _) ?_)
  unfold Builtin.«wrapper_descriptor.__get__»
  have i1 : Looks (model PR w) h (isInstance (.ref x) (.type "list")) true := ((Looks.ld hx).andThen .now).andThen (looks_mroIn X (by kernel_rfl))
  refine wpAny_bind (wpAny_of_eq (a := (.builtin "list.__len__", some (.ref x), some (.ref 153))) rfl ?_)
  dsimp only
  refine wpAny_bind ?_
  refine wpAny_bind ?_
  refine wpAny_of_eq (a := (("__len__" : Str), Value.type "list")) (by kernel_rfl) ?_
  dsimp only
  refine wpAny_bind (i1.here ?_)
  refine wpAny_pure (wpAny_bind ?_)
  unfold newFields newObj
  repeat (first | simp only [Bool.false_eq_true, if_false] | lk)
  exact hq
end
end
section
/- the part Acc3 -/
open PySem PySem.W PyProof.Rows PySem.Spec PySem.Calls PySem.W.X
set_option maxRecDepth 100000
set_option pp.deepTerms false
set_option pp.deepTerms.threshold 8
section
variable {w : World} {A : Around} {E : Value → Shared → Prop} {R : Result → Shared → Prop} {h : Heap} {g : Array GenState} {d : Drawn} {t : Nat} {os : OsState}
theorem li_quiet : ("list.__init__" : String).startsWith "lifetime." = false := by decide +kernel
theorem ll_quiet : ("list.__len__" : String).startsWith "lifetime." = false := by decide +kernel
theorem mw_init {q x dx : Addr} (hq : h.get? q = some (mwObj "list.__init__" x)) (hx : h.get? x = some (accObj dx #[] 0))
    (hr : ∀ h', Heap.SameBut x h h' → h'.get? x = some (accObj dx #[] 0) → R (.ok (.ret .none)) ⟨h', g, d, t, os⟩) :
    codeAny (model PR w) A (.call (.ref q) ⟨[], []⟩) R ⟨h, g, d, t, os⟩ := by
  refine codeAny_of_tree ?_
  show wpAny _ _ (callAny (.ref q) _) _ _ _
  refine nd_load hq ?_
  dsimp only
  repeat (first | simp only [Bool.false_eq_true, if_false] | lk)
  refine ⟨Code.quiet_builtin _ li_quiet, builtin_code F.slot_list_init.plain F.entry_list_init ?_⟩
  unfold Builtin.«list.__init__»
  have hl : h.get? x = some (accObj dx #[] 0) := hx
  refine wpAny_bind (wpAny_bind (wpAny_seqItems hx rfl (wpAny_pure ?_)))
  show wpAny _ _ (updateSeq x (fun _ => #[]) >>= _) _ _ _
  refine wpAny_bind (wpAny_updateSeq hx rfl (wpAny_pure ?_))
  have e : Obj.mapSeq (fun _ => #[]) (accObj dx #[] 0) = accObj dx #[] 0 := rfl
  exact hr _ (Heap.SameBut.update ..) (by rw [Heap.get?_update_self _ hx (by rw [e]; rfl), e])

theorem mw_len {q x dx : Addr} {vs : Array Value} {n : Nat} (hq : h.get? q = some (mwObj "list.__len__" x)) (hx : h.get? x = some (accObj dx vs n))
    (hr : ∀ t' tk', R (.ok (.ret (.int (vs.size : Nat) t'))) ⟨h, g, d, tk', os⟩) :
    codeAny (model PR w) A (.call (.ref q) ⟨[], []⟩) R ⟨h, g, d, t, os⟩ := by
  refine codeAny_of_tree ?_
  show wpAny _ _ (callAny (.ref q) _) _ _ _
  refine nd_load hq ?_
  dsimp only
  repeat (first | simp only [Bool.false_eq_true, if_false] | lk)
  refine ⟨Code.quiet_builtin _ ll_quiet, builtin_code F.slot_list_len.plain F.entry_list_len ?_⟩
  unfold Builtin.«list.__len__»
  repeat lk
  exact hr _ _
theorem callWith_mw {M : Model} {s : Shared} {q x : Addr} {id : String} {pos : Pos} {env : Env} {first : List Value} {Q : Value → Shared → Prop} (hq : s.heap.get? q = some (mwObj id x)) (h : wpAny M A (call (.ref q) (first ++ [])) Q E s) :
    wpAny M A (callWith pos (.ref q) first (backTo pos (starEach [] env)) []) Q E s :=
  callWith_of (P := fun h => h.get? q = some (mwObj id x)) rfl (fun _ e => ⟨.machine, .inr (.inl rfl), (Looks.ld (part := none) e).andThen (by show Looks _ _ (pure _) _; exact .now)⟩) (evalArgs_nil3 ⟨hq, h⟩)
end
end
local macro_rules | `(tactic| walk_at "mineSuper") => `(tactic| (
  refine' leafS (by assumption) (by assumption) ?k1 ?k2 ?k3 ?k6 ?k7 ?k8 ?k9 ?kB ?_ ?c2 ?c3 ?c4 ?c5
  case k6 => k_is
  case k7 => k_is
  case k8 => assumption
  case k9 => first | exact BindsTo.of_eq rfl | exact binds_K (by assumption) rfl rfl rfl rfl rfl
  case kB => exact locs rfl
  case c2 => exact rfl
  case c3 => exact rfl
  case c4 => exact rfl
  case c5 => decide
  case k1 => assumption
  case k2 => assumption
  case k3 => assumption
  intro h₁ F N l1))
section
/- the part Acc1 -/
open PySem PySem.W PyProof.Rows PySem.Spec PySem.Calls PySem.W.X
set_option maxRecDepth 100000
set_option pp.deepTerms false
set_option pp.deepTerms.threshold 8
section
variable {w : World} {A : Around} {s : Shared} {Q : Value → Shared → Prop} {E : Value → Shared → Prop}

abbrev accDict (w : World) (tk : Tok) : Obj := Obj.putName "_initial_size" (PyData.keyHash w.params "_initial_size") (.str "_initial_size" tk) (.int 0 351) emptyDict
theorem new_acc (G : Gnd w s.heap) (hroom : A.depth < recursionLimit) (hroom' : A.depth + 1 < recursionLimit)
    (h : ∀ a dx tkk, s.heap.get? a = none → s.heap.get? dx = none → a ≠ dx → Kept s (fun h' => h'.get? a = some (accObj dx #[] 0) ∧ h'.get? dx = some (accDict w tkk)) (Q (.ref a))) : wpAny (model PR w) A (call (.ref 153) []) Q E s := by
  walk_at "mineFill"
  refine wpAny_call ?_
  obtain ⟨hh, g, d, tk, os⟩ := s
  refine make_list G.X ?_
  have hk : ∀ b o, hh.get? b = some o → ((hh.push emptyDict).push (accObj hh.objs.size #[] 0)).get? b = some o := fun b o e => Heap.get?_push_of_some _ (Heap.get?_push_of_some _ e)
  have hx : ((hh.push emptyDict).push (accObj hh.objs.size #[] 0)).get? (hh.objs.size + 1) = some (accObj hh.objs.size #[] 0) := by heap_get
  have hd : ((hh.push emptyDict).push (accObj hh.objs.size #[] 0)).get? hh.objs.size = some emptyDict := Heap.get?_push_of_some _ (Heap.get?_push_at rfl rfl)
  have G' := G.keeps hk
  have hsz : hh.objs.size ≤ ((hh.push emptyDict).push (accObj hh.objs.size #[] 0)).objs.size := by simp only [Heap.size_push]; omega
  have hn : ∀ p ∈ [(hh.objs.size + 1, accObj hh.objs.size #[] 0), (hh.objs.size, emptyDict)], ((hh.push emptyDict).push (accObj hh.objs.size #[] 0)).get? p.1 = some p.2 ∧ hh.get? p.1 = none := by
    intro p hp
    rcases List.mem_cons.mp hp with rfl | hp
    · exact ⟨hx, Heap.get?_none_of_le (Nat.le_succ _)⟩
    · rcases List.mem_cons.mp hp with rfl | hp
      · exact ⟨hd, Heap.get?_none_of_le (Nat.le_refl _)⟩
      · cases hp
  have X := G'.X
  obtain ⟨p, loose, mean, mg, mb, T⟩ := G'.T
  have hr : (A.under (.builtin "type.__call__" ⟨[.ref 153], []⟩)).depth < recursionLimit := hroom'
  walk_at "mineSuper"
  rename_i h1 F0 N0 l1
  clear X
  have X := G.X
  obtain ⟨p2, loose2, mean2, mg2, mb2, T2⟩ := G.T
  clear hn hx hd hk hsz
  dsimp only at *
  iterate 5 walk1
  have F := ‹Fr _ _ _ _›
  have N := ‹News _ _ _ _›
  have I : InstAt h1 (hh.objs.size + 1) (accObj hh.objs.size #[] 0) 153 (some emptyDict) := ⟨(N _ (.head _)).1, rfl, rfl, (N _ (.tail _ (.head _))).1⟩
  refine set_plain ((G.keeps F.keep).X) I (by kernel_rfl) (osa_acc (pre := [(hh.objs.size + 1, accObj hh.objs.size #[] 0)]) (post := []) F N ((G.keeps F.keep).X) I rfl (by kernel_rfl) rfl ?h1 ?h2 rfl rfl (Nat.le_of_ble_eq_true rfl) ?_)
  case h1 => intro p hp; rcases List.mem_cons.mp hp with rfl | hp; exact Nat.succ_ne_self _; cases hp
  case h2 => intro p hp; cases hp
  intro h2 F2 N2
  clear I F0 N0
  dsimp only at *
  clear F N
  iterate 1 walk1
  refine ks_wpAt_Expr_any ?_
  refine ks_wpAt_MethodCall ?_
  have I2 : InstAt h2 (hh.objs.size + 1) (accObj hh.objs.size #[] 0) 153 (some _) := ⟨(N2 _ (.head _)).1, rfl, rfl, (N2 _ (.tail _ (.head _))).1⟩
  refine ks_node F2 G.X N2 T2 (by k_is) rfl rfl I2 (by k_is) rfl (by first | rfl | decide +kernel) (by k_is) (by k_is) (by k_is) (by k_is) (by decide) rfl rfl rfl rfl (by decide +kernel) (by first | rfl | kernel_rfl) ?_
  intro so h3 F3 N3 l3
  dsimp only
  have hC : Looks (model PR w) h3 (mroOf (.ref 153)) [.ref 153, .type "list", .type "object"] := by
    obtain ⟨cd, hc, hmr⟩ : ∃ cd, clsIn (Mine.hk.heap_1 w.params) 153 = some cd ∧ cd.mro = [.ref 153, .type "list", .type "object"] := ⟨_, rfl, rfl⟩
    rw [← hmr]
    exact (looks_clsIn ((G.keeps F3.keep).X) hc).andThen .now
  refine getMethod_super (N3 _ (.head _)).1 (looks_opaque ((G.keeps F3.keep).X) (by kernel_rfl)) hC rfl ((G.keeps F3.keep).X) (by kernel_rfl) li_type ?hx (by decide) ?_
  case hx =>
    have h153 : ∃ o, (Mine.hk.heap_1 w.params).lookup 153 = some o := ⟨_, rfl⟩
    obtain ⟨o, ho⟩ := h153
    have : 153 < hh.objs.size := Heap.lt_size (G.X _ _ ho)
    exact fun e => absurd this (by have e' : hh.objs.size + 1 = (153 : Nat) := e; omega)
  refine wd_get_init ((G.keeps F3.keep).X) (N3 _ (.tail _ (.head _))).1 ⟨_, rfl, ?_⟩
  dsimp only
  have F4 := F3.push (mwObj "list.__init__" (hh.objs.size + 1))
  have N4 := N3.push F3 (mwObj "list.__init__" (hh.objs.size + 1))
  clear F2 N2 F3 N3 I2 hC l3 l1
  refine callWith_mw (N4 _ (.head _)).1 ?_
  refine wpAny_call (mw_init (N4 _ (.head _)).1 (N4 _ (.tail _ (.tail _ (.head _)))).1 fun h5 hs5 hx5 => ?_)
  dsimp only
  refine wpAt_of_wpAny (wpAny_execs_nil ?_)
  dsimp only
  refine ⟨rfl, ?_⟩
  show Q _ _
  have hD := (hs5.2 _ (Nat.ne_of_lt (Nat.lt_succ_self _))).trans (N4 _ (.tail _ (.tail _ (.tail _ (.head _))))).1
  have hK : ∀ b o, hh.get? b = some o → h5.get? b = some o := fun b o e => by
    refine (hs5.2 b ?_).trans (F4.keep b o e)
    have := Heap.lt_size e
    exact Nat.ne_of_lt (Nat.lt_succ_of_lt this)
  exact h (hh.objs.size + 1) hh.objs.size _ (Heap.get?_none_of_le (Nat.le_succ _)) (Heap.get?_none_of_le (Nat.le_refl _)) (Nat.succ_ne_self _) h5 _ hK ⟨hx5, hD⟩
end
end
section
/- the part Acc4 -/
open PySem PySem.W PyProof.Rows PySem.Spec PySem.Calls PySem.W.X
set_option maxRecDepth 100000
set_option pp.deepTerms false
set_option pp.deepTerms.threshold 8
section
variable {w : World} {A : Around} {s : Shared} {Q : Value → Shared → Prop} {E : Value → Shared → Prop}

theorem acc_count {x dx : Addr} {vs : Array Value} {n : Nat} {od : Obj} (G : Gnd w s.heap) (hroom : A.depth < recursionLimit) (hx : s.heap.get? x = some (accObj dx vs n)) (hd : s.heap.get? dx = some od) (hx153 : x ≠ 153)
    (h : ∀ t', Kept s Yes (Q (.int (vs.size : Nat) t'))) : wpAny (model PR w) A (call (.ref 150) [.ref x]) Q E s := by
  walk_at "mineFill"
  walk_at "mineGnd"
  refine wpAny_call ?_
  have hk : ∀ b o, s.heap.get? b = some o → s.heap.get? b = some o := fun b o e => e
  have hsz : s.heap.objs.size ≤ s.heap.objs.size := Nat.le_refl _
  have hn : ∀ p ∈ ([] : List (Addr × Obj)), s.heap.get? p.1 = some p.2 ∧ s.heap.get? p.1 = none := fun p hp => nomatch hp
  walk_at "mineSuper"
  rename_i h1 F N l1
  clear hn hk hsz
  have T := ‹Top _ _ _ _ _ _›
  iterate 1 walk1
  refine ks_wpAt_Return_some ?_
  refine ks_wpAt_MethodCall ?_
  have I : InstAt h1 x (accObj dx vs n) 153 (some od) := ⟨F.keep _ _ hx, rfl, rfl, F.keep _ _ hd⟩
  refine ks_node F G.X N T (by k_is) rfl rfl I (by k_is) rfl (by first | rfl | decide +kernel) (by k_is) (by k_is) (by k_is) (by k_is) (by decide) rfl rfl rfl rfl (by decide +kernel) (by first | rfl | kernel_rfl) ?_
  intro so h3 F3 N3 l3
  dsimp only
  have hC : Looks (model PR w) h3 (mroOf (.ref 153)) [.ref 153, .type "list", .type "object"] := by
    obtain ⟨cd, hc, hmr⟩ : ∃ cd, clsIn (Mine.hk.heap_1 w.params) 153 = some cd ∧ cd.mro = [.ref 153, .type "list", .type "object"] := ⟨_, rfl, rfl⟩
    rw [← hmr]
    exact (looks_clsIn ((G.keeps F3.keep).X) hc).andThen .now
  refine getMethod_super (N3 _ (.head _)).1 (looks_opaque ((G.keeps F3.keep).X) (by kernel_rfl)) hC rfl ((G.keeps F3.keep).X) (by kernel_rfl) ll_type hx153 (by decide) ?_
  refine wd_get_len ((G.keeps F3.keep).X) (F3.keep _ _ hx) ⟨_, rfl, ?_⟩
  dsimp only
  have F4 := F3.push (mwObj "list.__len__" x)
  have N4 := N3.push F3 (mwObj "list.__len__" x)
  refine callWith_mw (N4 _ (.head _)).1 ?_
  refine wpAny_call (mw_len (N4 _ (.head _)).1 (F4.keep _ _ hx) fun t' tk' => ?_)
  dsimp only
  exact h _ _ _ F4.keep trivial
end
end
local macro_rules | `(tactic| walk_at "mineBase") => `(tactic| (
  refine' leafB (by assumption) (by assumption) ?k1 ?k2 ?k3 ?k6 ?k7 ?k8 ?k9 ?kB ?_ ?c2 ?c3 ?c4 ?c5
  case k6 => k_is
  case k7 => k_is
  case k8 => assumption
  case k9 => first | exact BindsTo.of_eq rfl | exact binds_K (by assumption) rfl rfl rfl rfl rfl
  case kB => exact locs rfl
  case c2 => exact rfl
  case c3 => exact rfl
  case c4 => exact rfl
  case c5 => decide
  case k1 => assumption
  case k2 => assumption
  case k3 => assumption
  intro h₁ F N l1))
section
/- the part Acc5 -/
open PySem PySem.W PyProof.Rows PySem.Spec PySem.Calls PySem.W.X
set_option maxRecDepth 100000
set_option pp.deepTerms false
set_option pp.deepTerms.threshold 8
theorem canon_lga : Manifest.canonical "list.__getattribute__" = "object.__getattribute__" := by decide +kernel
theorem la_type : typeOf (.builtin "list.append") = pure (.type "method_descriptor") := PySem.F.type_list_append
section
variable {w : World} {A : Around} {s : Shared} {E : Value → Shared → Prop}
theorem acc_method {x dx : Addr} {vs : Array Value} {n : Nat} {od : Obj} {name : Str} {pl : Sem Bool} {Q : Value × List Value → Shared → Prop} {v : Value} {tv : String} (X : (hk.heap_1 w.params).In s.heap) (hx : s.heap.get? x = some (accObj dx vs n)) (hd : s.heap.get? dx = some od)
    (hga : findIn (hk.heap_1 w.params) (.ref 153) "__getattribute__" = some (some (.builtin "list.__getattribute__"))) (hgk : findIn (hk.heap_1 w.params) (.ref 153) "__getattr__" = some none)
    (hf : findIn (hk.heap_1 w.params) (.ref 153) name = some (some v)) (ht : Looks (model PR w) s.heap (typeOf v) (.type tv)) (htv : (Value.type tv != .type "function" && Value.type tv != .type "method_descriptor" && Value.type tv != .type "wrapper_descriptor") = false) (hs : (lookIn name od).map (·.isSome) = some false) (h : Q (v, [.ref x]) s) :
    wpAny (model PR w) A (getMethod (.ref x) name pl) Q E s := by
  have I : InstAt s.heap x (accObj dx vs n) 153 (some od) := ⟨hx, rfl, rfl, hd⟩
  unfold getMethod specialOf
  refine wpAny_bind (wpAny_bind (I.type.here ((looks_findIn X hga).here ?_)))
  dsimp only
  rw [canon_lga, if_neg (by decide)]
  refine wpAny_bind (wpAny_bind (I.type.here ((looks_findIn X hgk).here ?_)))
  refine wpAny_bind (wpAny_bind (I.type.here ((looks_findIn X hf).here (wpAny_bind (ht.here ?_)))))
  rw [if_neg (by rw [htv]; exact Bool.false_ne_true)]
  refine wpAny_bind (wpAny_loadPart I.at_ ?_)
  obtain ⟨r, a, b⟩ := Option.map_eq_some_iff.mp hs
  refine wpAny_bind (wpAny_bind (wpAny_loadPart hd ?_))
  rw [nsLook_of a]
  refine wpAny_pure ?_
  rw [b]
  exact wpAny_bind (wpAny_rule (wpAny_pure h))

theorem check_method {M : Model} {i owner n : String} {self : Value} {rest : List Value} {kw : List (Str × Value)} {Q : Unit → Shared → Prop}
    (hk : builtinKind i = some .method) (hs : splitId i = some (owner, n)) (hi : Looks M s.heap (isInstance self (.type owner)) true) (ha : argsOk i ⟨self :: rest, kw⟩) (q : Q () s) :
    wpAny M A (checkBuiltinCall i ⟨self :: rest, kw⟩) Q E s := by
  simp only [checkBuiltinCall, hk, hs]
  refine wpAny_bind (hi.here ?_)
  simp only [Bool.not_true, Bool.false_eq_true, if_false]
  cases hsig : Manifest.signature? i with
  | none => exact wpAny_pure q
  | some sig =>
    simp only [argsOk, hsig] at ha
    have h2 : Bind.checkArgs i sig ⟨self :: rest, kw⟩ = pure () := ha
    show wpAny M A (Bind.checkArgs i sig ⟨self :: rest, kw⟩) Q E s
    rw [h2]; exact wpAny_pure q
theorem la_kind : builtinKind "list.append" = some .method := by decide +kernel
theorem la_split : splitId "list.append" = some ("list", "append") := by decide +kernel
theorem mapSeq_acc (d : Addr) (its : Array Value) (n : Nat) (x : Value) : Obj.mapSeq (·.push x) (accObj d its n) = accObj d (its.push x) (n + 1) := by
  simp [Obj.mapSeq]
theorem acc_append {x dx : Addr} {vs : Array Value} {n : Nat} {y : Value} {Q : Value → Shared → Prop} (X : (hk.heap_1 w.params).In s.heap) (hx : s.heap.get? x = some (accObj dx vs n)) (hsz : vs.size ≤ 1000000)
    (h : ∀ h', Heap.SameBut x s.heap h' → h'.get? x = some (accObj dx (vs.push y) (n + 1)) → Q .none { s with heap := h' }) :
    wpAny (model PR w) A (call (.builtin "list.append") [.ref x, y]) Q E s := by
  have i1 : Looks (model PR w) s.heap (isInstance (.ref x) (.type "list")) true := ((Looks.ld hx).andThen .now).andThen (looks_mroIn X (by kernel_rfl))
  refine wpAny_call (codeAny_call_builtin slot_list_append.plain entry_list_append ?_)
  refine check_method la_kind la_split i1 (args_list_append _ _) ?_
  show wpAny _ _ (updateSeq x (·.push y) >>= fun _ => ret .none) _ _ s
  refine wpAny_bind ?_
  refine wpAny_updateSeq hx rfl (wpAny_pure (h _ (Heap.SameBut.update ..) ?_)) (by rw [sizeLine_eq]; omega) (by rw [Array.size_push, sizeLine_eq]; omega)
  rw [Heap.get?_update_self _ hx (by rw [mapSeq_acc]; rfl), mapSeq_acc]

theorem acc_push {x dx : Addr} {vs : Array Value} {n : Nat} {od : Obj} {y z : Str} {t u : Tok} {hb : Heap} {Q : Value → Shared → Prop} (G : Gnd w hb) (hroom : A.depth < recursionLimit) (hk0 : ∀ b o, hb.get? b = some o → s.heap.get? b = some o) (hb0 : hb.get? x = none)
    (hx : s.heap.get? x = some (accObj dx vs n)) (hd : s.heap.get? dx = some od) (hl : (lookIn "append" od).map (·.isSome) = some false) (hsz : vs.size ≤ 1000000)
    (h : ∀ T, s.heap.get? T = none → T ≠ x → Mut s x (accObj dx (vs.push (.ref T)) (n + 1)) (fun h' => IsTup h' T #[.str y t, .str z u]) (Q .none)) : wpAny (model PR w) A (call (.ref 97) [.ref x, .str y t, .str z u]) Q E s := by
  walk_at "mineFill"
  refine wpAny_call ?_
  have hxd : dx ≠ x := by
    rintro rfl
    rw [hx] at hd; cases hd; cases hl
  have hk : ∀ b o, (hideAll s.heap [x]).get? b = some o → s.heap.get? b = some o := fun b o e => of_hideAll _ e
  have hb1 : ∀ b o, hb.get? b = some o → (hideAll s.heap [x]).get? b = some o := fun b o e => hideAll_get _ (hk0 b o e) (by rintro hm; rcases List.mem_cons.mp hm with rfl | hm; rw [hb0] at e; cases e; cases hm)
  have hsz' : (hideAll s.heap [x]).objs.size ≤ s.heap.objs.size := Nat.le_of_eq (hideAll_size _ _)
  have hn : ∀ p ∈ [(x, accObj dx vs n)], s.heap.get? p.1 = some p.2 ∧ (hideAll s.heap [x]).get? p.1 = none := by
    intro p hp; rcases List.mem_cons.mp hp with rfl | hp
    · exact ⟨hx, hideAll_none _ (.head _)⟩
    · cases hp
  have G1 := G.keeps hk0
  have G2 := G.keeps hb1
  have X := G1.X
  obtain ⟨p, loose, mean, mg, mb, T⟩ := G1.T
  walk_at "mineBase"
  rename_i h1 F N l1
  clear X hn hk hsz'
  have X := G2.X
  obtain ⟨p2, loose2, mean2, mg2, mb2, T2⟩ := G2.T
  clear G1 
  iterate 4 walk1
  have F1 := ‹Fr _ _ _ _›
  have N1 := ‹News _ _ _ _›
  have hdb : (hideAll s.heap [x]).get? dx = some od := hideAll_get _ hd (by simpa using hxd)
  refine acc_method (dx := dx) (vs := vs) (n := n) ((G2.keeps F1.keep).X) (N1 _ (.head _)).1 (F1.keep _ _ hdb) (by kernel_rfl) (by kernel_rfl) (by kernel_rfl) (Looks.of_pure la_type) (by decide) hl ?_
  dsimp only
  clear F1 N1
  iterate 10 walk1
  rename_i D h2 F2 N2 lD
  refine acc_append ((G2.keeps F2.keep).X) (N2 _ (.tail _ (.head _))).1 hsz fun h3 hs3 hx3 => ?_
  refine wpAny_execs_nil ?_
  dsimp only
  have hD : s.heap.get? D = none := by
    cases e : s.heap.get? D with
    | none => rfl
    | some o =>
      have := hideAll_get [x] e (by simpa using Nat.ne_of_gt lD)
      rw [(N2 _ (.head _)).2.2] at this; cases this
  exact h D hD (Nat.ne_of_gt lD) h3 _ (fun b o hb e => (hs3.2 b hb).trans (F2.keep _ _ (hideAll_get _ e (by simpa using hb)))) hx3 ⟨_, (hs3.2 D (Nat.ne_of_gt lD)).trans (N2 _ (.head _)).1, rfl, 0, rfl⟩
end
end
section
/- the part Acc6 -/
open PySem PySem.W PyProof.Rows PySem.Spec PySem.Calls PySem.W.X
set_option maxRecDepth 100000
set_option pp.deepTerms false
set_option pp.deepTerms.threshold 8
section
variable {w : World} {A : Around} {s : Shared} {E : Value → Shared → Prop}
theorem check_acc {M : Model} {i n : String} {x dx : Addr} {vs : Array Value} {k : Nat} {rest : List Value} {Q : Unit → Shared → Prop} (X : (hk.heap_1 w.params).In s.heap) (hx : s.heap.get? x = some (accObj dx vs k))
    (hk : builtinKind i = some .method ∨ builtinKind i = some .slot) (hs : splitId i = some ("list", n)) (ha : argsOk i ⟨.ref x :: rest, []⟩) (q : Q () s) :
    wpAny M A (checkBuiltinCall i ⟨.ref x :: rest, []⟩) Q E s := by
  have i1 : Looks M s.heap (isInstance (.ref x) (.type "list")) true := ((Looks.ld hx).andThen .now).andThen (looks_mroIn X (by kernel_rfl))
  rcases hk with hk | hk
  · exact check_method hk hs i1 ha q
  · exact check_slot hk hs i1 ha q

theorem acc_seqKey {M : Model} {x dx : Addr} {vs : Array Value} {n : Nat} {k : Value} {name : Str} {Q : Value → Shared → Prop} (X : (hk.heap_1 w.params).In s.heap) (hx : s.heap.get? x = some (accObj dx vs n)) (h : Q k s) :
    wpAny M A (sequenceKey (.ref x) k name) Q E s := by
  have t1 : Looks M s.heap (typeOf (.ref x)) (.ref 153) := (Looks.ld hx).andThen .now
  have d1 : Looks M s.heap (isSubtype (.ref 153) (.type "collections.deque")) false := looks_mroIn X (by kernel_rfl)
  unfold sequenceKey
  refine wpAny_bind (t1.here ?_)
  dsimp only
  refine wpAny_bind ?_
  show wpAny M A (seqItemTypes.anyM fun n => isSubtype (.ref 153) (.type n)) _ _ _
  show wpAny M A (isSubtype (.ref 153) (.type "collections.deque") >>= _) _ _ _
  refine wpAny_bind (d1.here ?_)
  exact wpAny_pure (wpAny_pure h)

theorem acc_callSpecial {name : Str} {id : String} {b : Builtin} {n : String} {x dx : Addr} {vs : Array Value} {k : Nat} {rest : List Value} {Q : Option Value → Shared → Prop} (X : (hk.heap_1 w.params).In s.heap) (hx : s.heap.get? x = some (accObj dx vs k))
    (hf : findIn (hk.heap_1 w.params) (.ref 153) name = some (some (.builtin id))) (S : Slot "list" name id) (he : entryFor table id = some b) (hk : builtinKind id = some .method ∨ builtinKind id = some .slot) (hs : splitId id = some ("list", n)) (ha : argsOk id ⟨.ref x :: rest, []⟩)
    (h : wpAny (model PR w) A.in1 (b ⟨.ref x :: rest, []⟩) (fun fin s' => ∃ v, fin = .done (.ret v) ∧ Q (some v) s') E s) :
    wpAny (model PR w) A (callSpecial? (.ref x) name rest) Q E s := by
  have t1 : Looks (model PR w) s.heap (typeOf (.ref x)) (.ref 153) := (Looks.ld hx).andThen .now
  unfold callSpecial? specialOf
  refine wpAny_bind (wpAny_bind (t1.here ((looks_findIn X hf).here (wpAny_holding ?_))))
  rw [S.bind]
  refine wpAny_bind (wpAny_pure (wpAny_bind (wpAny_call (codeAny_call_builtin S.plain he (check_acc X hx hk hs ha (wpAny_mono h (fun fin s' h' => ?_) fun _ _ h' => h'))))))
  obtain ⟨v, rfl, hv⟩ := h'
  exact wpAny_pure hv

theorem acc_getslice {x dx sl : Addr} {items : Array Value} {n : Nat} {vl vu vs : Value} {lo hi st : Option Int} {Q : Value → Shared → Prop} (X : (hk.heap_1 w.params).In s.heap) (hx : s.heap.get? x = some (accObj dx items n))
    (hs : s.heap.IsSliceOf sl vl vu vs) (pl : IsPart vl lo) (pu : IsPart vu hi) (ps : IsPart vs st) (h0 : st ≠ some 0) (hsz : items.size ≤ sizeLine)
    (h : Q (.ref s.heap.objs.size) { s with heap := s.heap.push { cls := .type "list", data := .seq (slicePick items lo hi st) } }) :
    wpAny (model PR w) A (getItem (.ref x) (.ref sl)) Q E s := by
  obtain ⟨os, hos, hcs, hds⟩ := id hs
  have hTs : s.TypeIs (.ref sl) "slice" := ⟨os, hos, hcs⟩
  unfold getItem
  refine wpAny_holding ?_
  refine wpAny_bind (acc_seqKey X hx ?_)
  refine wpAny_bind (acc_callSpecial (n := "__getitem__") X hx (by kernel_rfl) slot_list_getitem entry_list_getitem (by first | exact .inl (by decide +kernel) | exact .inr (by decide +kernel)) (by decide +kernel) (args_list_getitem _ _) ?_)
  show wpAny _ _ (Builtin.List.listSubscript? (.ref sl) >>= _) _ _ s
  refine wpAny_bind ?_
  unfold Builtin.List.listSubscript?
  refine wpAny_bind (wpAny_specialOf hTs slice_no_index ?_)
  simp only [Option.isNone_none, if_true]
  refine wpAny_pure ?_
  show wpAny _ _ (typeOf (.ref sl) >>= _) _ _ s
  refine wpAny_bind (wpAny_typeOf hTs ?_)
  rw [if_neg (by decide)]
  rw [listSliceParts_eq]
  have hstep : ¬ ((rawPart st == rawInt 0) = true) := by
    cases st with
    | none => exact Bool.false_ne_true
    | some c =>
      intro hh
      have : c = 0 := by simpa [rawPart, rawInt] using hh
      exact h0 (by rw [this])
  refine wpAny_bind (wpAny_bind (wpAny_field hos hds (x := vs) rfl (wpAny_bind (wpAny_listPart ps ?_))))
  rw [if_neg hstep]
  refine wpAny_bind (wpAny_field hos hds (x := vl) rfl (wpAny_bind (wpAny_listPart pl ?_)))
  refine wpAny_bind (wpAny_field hos hds (x := vu) rfl (wpAny_bind (wpAny_listPart pu (wpAny_pure ?_))))
  refine wpAny_bind (m := Builtin.List.listItems (.ref x)) ?_
  unfold Builtin.List.listItems
  refine wpAny_bind (wpAny_seqItems hx rfl (wpAny_pure ?_))
  refine wpAny_bind (wpAny_of_eq (sliceIndices_raw lo hi st items.size h0) ?_)
  refine wpAny_bind (wpAny_newObj_type (wpAny_pure ⟨_, rfl, wpAny_pure h⟩) (Nat.le_trans (slicePick_size_le items lo hi st) hsz))

theorem acc_subtail {value slice : Expr} {x dx sl : Addr} {items : Array Value} {n : Nat} {ops : List Value} {Q : Value → Shared → Prop} (X : (hk.heap_1 w.params).In s.heap) (hx : s.heap.get? x = some (accObj dx items n))
    (h : wpAny (model PR w) A (getItem (.ref x) (.ref sl)) Q E s)
    (hs : subscripted slice false (.ref x) (.ref sl) = operate ops (getItem (.ref x) (.ref sl))) (ht : ∀ r, letTemporaryGo value (.ref x) r = pure ()) :
    wpAny (model PR w) A (subscriptTail value slice (.ref x) (.ref sl)) Q E s := by
  have t1 : Looks (model PR w) s.heap (typeOf (.ref x)) (.ref 153) := (Looks.ld hx).andThen .now
  unfold subscriptTail getitemInPython specialOf
  refine wpAny_bind (wpAny_bind (wpAny_bind (t1.here ((looks_findIn (r := some (.builtin "list.__getitem__")) X (by kernel_rfl)).here ?_))))
  refine wpAny_pure (wpAny_bind ?_)
  rw [hs]
  exact wpAny_operating (wpAny_mono h (fun r s₃ h₃ => wpAny_bind (wpAny_of_eq (ht r) (wpAny_pure h₃))) fun _ _ x => x)
end
section
variable {w : World} {A : Around} {s : Shared} {E : Value → Shared → Prop}
theorem mapSeq_any (d : Addr) (its : Array Value) (n : Nat) (f : Array Value → Array Value) : ∃ n', Obj.mapSeq f (accObj d its n) = accObj d (f its) n' := ⟨_, rfl⟩

theorem acc_setslice {x dx sl e : Addr} {items : Array Value} {n k : Nat} {t : Tok} {Q : Unit → Shared → Prop} (X : (hk.heap_1 w.params).In s.heap) (hx : s.heap.get? x = some (accObj dx items n))
    (hs : s.heap.IsSliceOf sl (.int (k : Nat) t) .none .none) (he : s.heap.IsList e #[]) (hxe : x ≠ e) (hsz : items.size ≤ 1000000) (hkk : k ≤ items.size)
    (h : ∀ h' n', Heap.SameBut x s.heap h' → h'.get? x = some (accObj dx (items.extract 0 k) n') → Q () { s with heap := h' }) :
    wpAny (model PR w) A (setItem (.ref x) (.ref sl) (.ref e)) Q E s := by
  obtain ⟨os, hos, hcs, hds⟩ := id hs
  obtain ⟨oe, hoe, hce, ne, hde⟩ := id he
  have hTs : s.TypeIs (.ref sl) "slice" := ⟨os, hos, hcs⟩
  have hTe : s.TypeIs (.ref e) "list" := ⟨oe, hoe, hce⟩
  unfold setItem
  refine wpAny_holding ?_
  refine wpAny_bind (acc_seqKey X hx ?_)
  refine wpAny_bind (acc_callSpecial (n := "__setitem__") X hx (by kernel_rfl) F.slot_list_setitem F.entry_list_setitem (by first | exact .inl (by decide +kernel) | exact .inr (by decide +kernel)) (by decide +kernel) (F.args_list_setitem_3 _ _ _) ?_)
  show wpAny _ _ (Builtin.List.listSubscript? (.ref sl) >>= _) _ _ s
  refine wpAny_bind ?_
  unfold Builtin.List.listSubscript?
  refine wpAny_bind (wpAny_specialOf hTs slice_no_index ?_)
  simp only [Option.isNone_none, if_true]
  refine wpAny_pure ?_
  show wpAny _ _ (typeOf (.ref sl) >>= _) _ _ s
  refine wpAny_bind (wpAny_typeOf hTs ?_)
  rw [if_neg (by decide)]
  rw [listSliceParts_eq]
  refine wpAny_bind (wpAny_bind (wpAny_field hos hds (x := .none) rfl (wpAny_bind (wpAny_listPart .none ?_))))
  rw [if_neg (by decide)]
  refine wpAny_bind (wpAny_field hos hds (x := .int (k : Nat) t) rfl (wpAny_bind (wpAny_listPart (.int _ _) ?_)))
  refine wpAny_bind (wpAny_field hos hds (x := .none) rfl (wpAny_bind (wpAny_listPart .none (wpAny_pure ?_))))
  dsimp only
  have hne : Builtin.List.listSameRef (.ref x) (.ref e) = false := by show (x == e) = false; simpa using hxe
  rw [hne, if_neg Bool.false_ne_true]
  refine wpAny_bind (m := Builtin.List.listAllItems (.ref e) _) ?_
  unfold Builtin.List.listAllItems
  refine wpAny_bind (wpAny_typeOf hTe ?_)
  rw [if_pos (by decide)]
  show wpAny _ _ (Builtin.List.listItems (.ref e)) _ _ _
  unfold Builtin.List.listItems
  refine wpAny_bind (wpAny_seqItems hoe hde (wpAny_pure ?_))
  refine wpAny_bind (m := Builtin.List.listItems (.ref x)) ?_
  unfold Builtin.List.listItems
  refine wpAny_bind (wpAny_seqItems hx rfl (wpAny_pure ?_))
  refine wpAny_bind (wpAny_of_eq (sliceIndices_raw (some (k : Int)) none none items.size (by simp)) ?_)
  have eb : sliceBounds (some (k : Int)) none none items.size = ((k : Int), (items.size : Int), 1) := by
    simp only [sliceBounds, Option.getD_none]
    have h1 : ¬ ((k : Int) < 0) := by omega
    simp only [h1, if_false, show (1 : Int) > 0 by decide, if_true]
    congr 1
    omega
  rw [eb]
  dsimp only
  rw [if_pos (by decide)]
  refine wpAny_bind (wpAny_rule ?_)
  have hlong : Builtin.List.listTooLong (items.size + (#[] : Array Value).size) = false := by
    unfold Builtin.List.listTooLong
    simp only [List.size_toArray, List.length_nil, Nat.add_zero, decide_eq_false_iff_not]
    rw [sizeLine_eq]
    omega
  rw [hlong, if_neg Bool.false_ne_true]
  have e1 : (k : Int).toNat = k := Int.toNat_natCast k
  have e2 : (max (k : Int) (items.size : Int)).toNat = items.size := by omega
  rw [e1, e2]
  obtain ⟨n', hn'⟩ := mapSeq_any dx items n (fun xs => xs.extract 0 k ++ #[] ++ xs.extract items.size xs.size)
  have e3 : items.extract 0 k ++ #[] ++ items.extract items.size items.size = items.extract 0 k := by simp
  rw [e3] at hn'
  refine wpAny_bind (m := updateSeq x (fun xs => xs.extract 0 k ++ #[] ++ xs.extract items.size xs.size)) ?_
  refine wpAny_updateSeq hx rfl ?_ (by rw [sizeLine_eq]; omega) (by rw [e3, Array.size_extract, sizeLine_eq]; omega)
  refine wpAny_bind (wpAny_letGo (wpAny_pure ⟨_, rfl, wpAny_pure (h _ n' (Heap.SameBut.update ..) ?_)⟩))
  rw [Heap.get?_update_self _ hx (by rw [hn']; rfl), hn']
end
section
variable {w : World} {A : Around} {s : Shared} {E : Value → Shared → Prop}
theorem acc_pop {x dx : Addr} {vs : List Value} {n : Nat} {od : Obj} {k : Nat} {t : Tok} {hb : Heap} {Q : Value → Shared → Prop} (G : Gnd w hb) (hroom : A.depth < recursionLimit) (hk0 : ∀ b o, hb.get? b = some o → s.heap.get? b = some o) (hb0 : hb.get? x = none)
    (hx : s.heap.get? x = some (accObj dx vs.toArray n)) (hd : s.heap.get? dx = some od) (hl : (lookIn "append" od).map (·.isSome) = some false) (hsz : vs.length ≤ 1000000) (hkv : k ≤ vs.length)
    (h : ∀ T n', s.heap.get? T = none → T ≠ x → Mut s x (accObj dx (vs.take k).toArray n') (fun h' => h'.get? T = some (listOf (vs.drop k).toArray 0)) (Q (.ref T))) : wpAny (model PR w) A (call (.ref 105) [.ref x, .int (k : Nat) t]) Q E s := by
  walk_at "mineFill"
  refine wpAny_call ?_
  have hxd : dx ≠ x := by
    rintro rfl
    rw [hx] at hd; cases hd; cases hl
  have hk : ∀ b o, (hideAll s.heap [x]).get? b = some o → s.heap.get? b = some o := fun b o e => of_hideAll _ e
  have hb1 : ∀ b o, hb.get? b = some o → (hideAll s.heap [x]).get? b = some o := fun b o e => hideAll_get _ (hk0 b o e) (by rintro hm; rcases List.mem_cons.mp hm with rfl | hm; rw [hb0] at e; cases e; cases hm)
  have hsz' : (hideAll s.heap [x]).objs.size ≤ s.heap.objs.size := Nat.le_of_eq (hideAll_size _ _)
  have hn : ∀ p ∈ [(x, accObj dx vs.toArray n)], s.heap.get? p.1 = some p.2 ∧ (hideAll s.heap [x]).get? p.1 = none := by
    intro p hp; rcases List.mem_cons.mp hp with rfl | hp
    · exact ⟨hx, hideAll_none _ (.head _)⟩
    · cases hp
  have G1 := G.keeps hk0
  have G2 := G.keeps hb1
  have X := G1.X
  obtain ⟨p, loose, mean, mg, mb, T⟩ := G1.T
  walk_at "mineBase"
  rename_i h1 F N l1
  clear X hn hk hsz'
  have X := G2.X
  obtain ⟨p2, loose2, mean2, mg2, mb2, T2⟩ := G2.T
  clear G1 
  iterate 9 walk1
  dsimp only
  have F1 := F.push { cls := .type "slice", data := .fields #[.int (k : Nat) t, .none, .none] }
  have N1 := N.push F { cls := .type "slice", data := .fields #[.int (k : Nat) t, .none, .none] }
  clear F N
  refine acc_subtail ((G2.keeps F1.keep).X) (N1 _ (.tail _ (.head _))).1 ?_ (by with_unfolding_all rfl) (by intro _; with_unfolding_all rfl)
  refine acc_getslice (vl := .int (k : Nat) t) (vu := .none) (vs := .none) ((G2.keeps F1.keep).X) (N1 _ (.tail _ (.head _))).1 ⟨_, (N1 _ (.head _)).1, rfl, rfl⟩ (.int _ _) .none .none (by simp) (by rw [sizeLine_eq, List.size_toArray]; omega) ?_
  dsimp only
  rw [slicePick_from vs.toArray k (by simpa using hkv)]
  have F2 := F1.push { cls := .type "list", data := .seq (vs.drop k).toArray }
  have N2 := N1.push F1 { cls := .type "list", data := .seq (vs.drop k).toArray }
  have lP : x < (h1.push { cls := .type "slice", data := .fields #[.int (k : Nat) t, .none, .none] }).objs.size := Heap.lt_size (N1 _ (.tail _ (.head _))).1
  clear F1 N1
  revert F2 N2 lP
  generalize hP : (h1.push { cls := .type "slice", data := .fields #[.int (k : Nat) t, .none, .none] }).objs.size = P
  generalize hh2 : (h1.push { cls := .type "slice", data := .fields #[.int (k : Nat) t, .none, .none] }).push { cls := .type "list", data := .seq (vs.drop k).toArray } = h2
  intro F2 N2 lP
  clear hP hh2
  iterate 13 walk1
  dsimp only
  rename_i E0 h3 F3 N3 lE
  have F4 := F3.push { cls := .type "slice", data := .fields #[.int (k : Nat) t, .none, .none] }
  have N4 := N3.push F3 { cls := .type "slice", data := .fields #[.int (k : Nat) t, .none, .none] }
  have lS : x < h3.objs.size := Heap.lt_size (N3 _ (.tail _ (.tail _ (.tail _ (.head _))))).1
  clear F3 N3
  obtain ⟨lE1, lE2, lE3⟩ := lE
  refine acc_setslice (dx := dx) (items := vs.toArray) (n := n) (k := k) (t := t) ((G2.keeps F4.keep).X) (N4 _ (.tail _ (.tail _ (.tail _ (.tail _ (.head _)))))).1 ⟨_, (N4 _ (.head _)).1, rfl, rfl⟩ ⟨_, (N4 _ (.tail _ (.head _))).1, rfl, 0, rfl⟩ (Nat.ne_of_lt lE3) (by simpa using hsz) (by simpa using hkv) fun h5 n' hs5 hx5 => ?_
  have hPx : P ≠ x := Nat.ne_of_gt lP
  have F5 := F4.change hs5 (N4 _ (.tail _ (.tail _ (.tail _ (.tail _ (.head _)))))).2.1 (N4 _ (.tail _ (.tail _ (.tail _ (.tail _ (.head _)))))).2.2
  have N5 : News (hideAll s.heap [x]) s.heap.objs.size h5 [(P, { cls := .type "list", data := .seq (vs.drop k).toArray })] := by
    intro p hp
    rcases List.mem_cons.mp hp with rfl | hp
    · exact ⟨(hs5.2 P hPx).trans (N4 _ (.tail _ (.tail _ (.head _)))).1, (N4 _ (.tail _ (.tail _ (.head _)))).2⟩
    · cases hp
  have hext : ∀ b o, b ≠ x → s.heap.get? b = some o → h5.get? b = some o := fun b o hb e => (hs5.2 b hb).trans (F4.keep _ _ (hideAll_get _ e (by simpa using hb)))
  clear F4 N4 lS
  iterate 3 walk1
  dsimp only
  have hP : s.heap.get? P = none := by
    cases e : s.heap.get? P with
    | none => rfl
    | some o =>
      have := hideAll_get [x] e (by simpa using hPx)
      rw [(N5 _ (.head _)).2.2] at this; cases this
  have e1 : vs.toArray.extract 0 k = (vs.take k).toArray := by simp
  rw [e1] at hx5
  exact h P n' hP hPx h5 _ hext hx5 (N5 _ (.head _)).1
end
end
section
/- the part Str1 -/
open PySem PySem.W PyProof.Rows PySem.Spec PySem.Calls PySem.W.X
set_option maxRecDepth 100000
set_option pp.deepTerms false
set_option pp.deepTerms.threshold 8

section
variable {w : World} {A : Around} {s : Shared} {E : Value → Shared → Prop}
/-- an object of the written class with these items -/
def IsAcc (h : Heap) (a : Addr) (items : Array Value) : Prop := ∃ d n, h.get? a = some (accObj d items n)
theorem IsAcc.at {h h' : Heap} {a : Addr} {items : Array Value} (x : IsAcc h a items) (k : ∀ o, h.get? a = some o → h'.get? a = some o) : IsAcc h' a items := let ⟨d, n, e⟩ := x; ⟨d, n, k _ e⟩

theorem acc_iter {x : Addr} {items : Array Value} {Q : Value → Shared → Prop} (X : (hk.heap_1 w.params).In s.heap) (hx : IsAcc s.heap x items)
    (h : Q (.ref s.heap.objs.size) { s with heap := s.heap.push { cls := .type "list_iterator", data := .fields #[.ref x, .int 0 0] } }) :
    wpAny (model PR w) A (pyIter (.ref x)) Q E s := by
  obtain ⟨dx, n, hx⟩ := hx
  have t1 : Looks (model PR w) s.heap (typeOf (.ref x)) (.ref 153) := (Looks.ld hx).andThen .now
  have f1 : Looks (model PR w) s.heap (typeLookup (.ref 153) "__iter__") (some (.builtin "list.__iter__")) := looks_findIn X (by kernel_rfl)
  unfold pyIter specialOf
  refine wpAny_bind (wpAny_bind (t1.here (f1.here ?_)))
  dsimp only
  refine wpAny_bind ?_
  have go : ∀ (Q2 : Option Value → Shared → Prop), wpAny (model PR w) A (call (.builtin "list.__iter__") [.ref x]) (fun v => Q2 (some v)) E s →
      ∀ r, wpAny (model PR w) A (callSpecialIfBoundUnlessNone? (.ref x) "__iter__" r) Q2 E s := by
    intro Q2 h2 r
    unfold callSpecialIfBoundUnlessNone? bindSpecialIfBound? specialOf
    refine wpAny_holding (wpAny_bind (wpAny_bind (wpAny_bind (t1.here (f1.here ?_)))))
    dsimp only
    rw [slot_list_iter.bind]
    refine wpAny_bind (wpAny_askSetting (wpAny_ite ?_))
    have fin : wpAny (model PR w) A (call (.builtin "list.__iter__") [.ref x] >>= fun v => pure (some v)) Q2 E s := wpAny_bind (wpAny_mono h2 (fun v s' h' => wpAny_pure h') fun _ _ h' => h')
    split
    · exact wpAny_bind (wpAny_pure (wpAny_pure (by exact fin)))
    · exact wpAny_tryCatch (wpAny_bind (wpAny_pure (wpAny_pure (by exact fin))))
  refine go _ ?_ _
  refine wpAny_call (codeAny_call_builtin slot_list_iter.plain entry_list_iter (check_acc (n := "__iter__") X hx (by first | exact .inl (by decide +kernel) | exact .inr (by decide +kernel)) (by decide +kernel) (args_list_iter _) ?_))
  show wpAny _ _ (do ret (← newFields "list_iterator" [.ref x, rawInt 0])) _ _ s
  refine wpAny_bind (wpAny_newObj_type (wpAny_pure ?_))
  show wpAny _ _ _ _ _ _
  refine wpAny_bind ?_
  refine wpAny_bind (wpAny_typeOf (T := "list_iterator") ⟨_, Heap.get?_push_size _ rfl, rfl⟩ ?_)
  refine wpAny_of_eq slot_listiter_next.lookup ?_
  exact wpAny_pure h

theorem acc_next {it l : Addr} {i : Nat} {items : Array Value} {x : Value} {Q : Option Value → Shared → Prop} (hit : s.heap.IsListIter it l i)
    (hl : IsAcc s.heap l items) (hx : items[i]? = some x)
    (hQ : ∀ h', h'.IsListIter it l (i + 1) → Heap.SameBut it s.heap h' → Q (some x) { s with heap := h' }) :
    wpAny (model PR w) A (pyNext (.ref it)) Q E s := by
  obtain ⟨o, ho, hc, hd⟩ := id hit
  obtain ⟨d, nl, hol⟩ := hl
  unfold pyNext
  refine wpAny_bind (wpAny_attempt (wpAny_callSpecial?_slot (name := Str.ofString "__next__") hit.typeIs slot_listiter_next
    (wpAny_call_entry slot_listiter_next hit.typeIs entry_listiter_next ?_ (args_listiter_next _))))
  show wpAny _ _ (field (.ref it) 0 >>= _) _ _ s
  refine wpAny_bind (wpAny_field ho hd (x := .ref l) rfl ?_)
  show wpAny _ _ (if (Value.ref l == Value.none) = true then _ else _) _ _ s
  rw [if_neg (show ¬ ((Value.ref l == Value.none) = true) from Bool.false_ne_true)]
  show wpAny _ _ (field (.ref it) 1 >>= _) _ _ s
  refine wpAny_bind (wpAny_field ho hd (x := .int i 0) rfl ?_)
  show wpAny _ _ (seqItems? (.ref l) >>= _) _ _ s
  refine wpAny_bind (wpAny_seqItems hol rfl ?_)
  simp only [Int.toNat_natCast, hx]
  refine wpAny_bind (wpAny_setField ho hd (by simp) (wpAny_pure ⟨x, rfl, wpAny_pure (hQ _ ?_ (Heap.SameBut.update ..))⟩))
  exact ⟨_, Heap.get?_update_self _ ho (Obj.isFreed_of_fields (Obj.data_mapFields hd _)), (Obj.cls_mapFields ..).trans hc, by
    rw [Obj.data_mapFields hd]; simp [rawInt]⟩

theorem acc_over {it l : Addr} {i : Nat} {items : Array Value} {Q : Option Value → Shared → Prop} (hh : A.handled = none)
    (hit : s.heap.IsListIter it l i) (hl : IsAcc s.heap l items) (hx : items[i]? = none)
    (hQ : ∀ h', Heap.ExtBut it s.heap h' → Q none { s with heap := h' }) : wpAny (model PR w) A (pyNext (.ref it)) Q E s := by
  obtain ⟨o, ho, hc, hd⟩ := id hit
  obtain ⟨d, nl, hol⟩ := hl
  unfold pyNext
  refine wpAny_bind (wpAny_attempt (wpAny_callSpecial?_slot (name := Str.ofString "__next__") hit.typeIs slot_listiter_next
    (wpAny_call_entry slot_listiter_next hit.typeIs entry_listiter_next ?_ (args_listiter_next _))))
  show wpAny _ _ (field (.ref it) 0 >>= _) _ _ s
  refine wpAny_bind (wpAny_field ho hd (x := .ref l) rfl ?_)
  show wpAny _ _ (if (Value.ref l == Value.none) = true then _ else _) _ _ s
  rw [if_neg (show ¬ ((Value.ref l == Value.none) = true) from Bool.false_ne_true)]
  show wpAny _ _ (field (.ref it) 1 >>= _) _ _ s
  refine wpAny_bind (wpAny_field ho hd (x := .int i 0) rfl ?_)
  show wpAny _ _ (seqItems? (.ref l) >>= _) _ _ s
  refine wpAny_bind (wpAny_seqItems hol rfl ?_)
  simp only [Int.toNat_natCast, hx]
  refine wpAny_bind (wpAny_rule (wpAny_bind (wpAny_setField ho hd (by simp) ?_)))
  show wpAny _ _ (newExc (.type "StopIteration") [] >>= _) _ _ _
  refine wpAny_bind ?_
  simp only [newExc, newTuple]
  refine wpAny_bind (wpAny_newObj_type ?_ (by size_fits))
  refine wpAny_bind (m := firstArgMember _ _) (wpAny_of_eq (a := Value.none) (by first | rfl | (simp only [firstArgMember]; rfl)) ?_)
  refine wpAny_newObj_type ?_ (by size_fits)
  simp only [raiseNew]
  refine wpAny_bind (wpAny_handled ?_)
  rw [show A.in1.handled = none from hh]
  refine wpAny_bind (wpAny_pure (wpAny_throw ?_))
  refine wpAny_bind (wpAny_isInstance (T := "StopIteration") (b := true) ⟨_, Heap.get?_push_size _ rfl, rfl⟩ isSubtype_stop ?_)
  exact wpAny_pure (hQ _ (((Heap.SameBut.update ..).extBut.push _).push _))

theorem walks_acc (hh : A.handled = none) (I ax : Addr) (hne : ax ≠ I) (items : Array Value) (Ts : Nat → Addr) (vals : Nat → Array Value)
    (hit : ∀ j, j < items.size → items[j]? = some (.ref (Ts j))) (hTI : ∀ j, j < items.size → Ts j ≠ I) :
    WalksU PR w A I (I :: ax :: (List.range items.size).map Ts) [I] items.size (fun j v => v = vals j)
      (fun j h => h.IsListIter I ax j ∧ IsAcc h ax items ∧ ∀ k, k < items.size → h.IsTuple (Ts k) (vals k))
      (fun j T h => (j < items.size ∧ T = Ts j) ∧ h.IsListIter I ax (j + 1) ∧ IsAcc h ax items ∧ ∀ k, k < items.size → h.IsTuple (Ts k) (vals k)) where
  sub := fun b hb => by simp at hb; simp [hb]
  frame := fun _ _ _ st hk => ⟨st.1.at fun o e => hk I (by simp) o e, st.2.1.at fun o e => hk ax (by simp) o e,
    fun k hk' => (st.2.2 k hk').at fun o e => hk (Ts k) (List.mem_cons_of_mem _ (List.mem_cons_of_mem _ (List.mem_map.mpr ⟨k, List.mem_range.mpr hk', rfl⟩))) o e⟩
  item := fun i s Q E hi st hQ => by
    refine acc_next st.1 st.2.1 (x := .ref (Ts i)) (hit i hi) fun h' hit' hs' => ?_
    have tup : ∀ k, k < items.size → h'.IsTuple (Ts k) (vals k) := fun k hk' => (st.2.2 k hk').extBut hs'.extBut (hTI k hk')
    exact hQ (Ts i) (vals i) h' s.toks rfl (tup i hi) ⟨⟨hi, rfl⟩, hit', st.2.1.at (fun o e => hs'.extBut ax o hne e), tup⟩ fun b o hb e => hs'.extBut b o (fun h => hb (by simp [h])) e
  go := fun _ _ _ _ _ s Q _ hm hQ => wpAny_letOwnedTupleGo_listiter hm.2.1 (hQ s.heap hm.2 fun _ _ _ e => e)
  apart := fun j T _ hm hmem => by
    rcases List.mem_cons.mp hmem with e | e
    · exact hTI j hm.1.1 (hm.1.2 ▸ e)
    · cases e
  done := fun s Q E st hQ => acc_over hh st.1 st.2.1 (by simp) fun h' he' => hQ h' s.toks fun b o hb e => he' b o (fun h => hb (by simp [h])) e
  self := fun _ _ _ _ st hQ => wpAny_pyIter_listiter st.1 hQ
end
end
section
/- the part Str2 -/
open PySem PySem.W PyProof.Rows PySem.Spec PySem.Calls PySem.W.X
set_option maxRecDepth 100000
set_option maxHeartbeats 1000000
set_option pp.deepTerms false
set_option pp.deepTerms.threshold 8
/-- the code table that the call may turn -/
def Tabbed (h : Heap) : Prop := ∃ ps, h.get? 122 = some (tabObj ps) ∧ TriplesOk ps.toList
theorem Tabbed.at {h h' : Heap} (x : Tabbed h) (k : ∀ o, h.get? 122 = some o → h'.get? 122 = some o) : Tabbed h' := let ⟨ps, e, t⟩ := x; ⟨ps, k _ e, t⟩
section
variable {w : World} {A : Around} {s : Shared} {E : Value → Shared → Prop}
theorem gen_code {env : Env} {pos : Pos} {q : Str} {scope : Scope} {Q : Value → Shared → Prop} (hc : env.code = .ref 126) (C : CodeHd s.heap 126 122) (T : Tabbed s.heap)
    (hQ : ∀ code h' tk, Heap.ExtBut 122 s.heap h' → s.heap.objs.size ≤ h'.objs.size → Tabbed h' → Q code { s with heap := h', toks := tk }) :
    wpAny (model PR w) A (genexprCode env pos q scope) Q E s := by
  obtain ⟨ps, hp, ht⟩ := T
  have hcode := C.code hp ht
  have htab := C.tab hp
  cases hnf : codeAmong pos ps.toList with
  | none =>
    refine wpAny_genexprCodeX hc hcode htab hnf fun c' h' tk hx hge hlt hc' _ ht' _ => hQ _ h' tk hx (Nat.le_of_lt (Nat.lt_of_le_of_lt hge hlt)) ⟨_, ht'.2, ?_⟩
    obtain ⟨o, vs, file, tf, flags, tg, inF, text, tt, op, ho, hd, h11, h2, h7, h9, h10, hop, hpd, htr, hne⟩ := id hc'
    have e := ht'.2
    rw [hop] at e; cases e; cases hpd
    exact htr
  | some cv =>
    obtain ⟨o, vs, file, tf, flags, tg, inF, text, tt, op, ho, hd, h11, h2, h7, h9, h10, hop, hpd, htr, hne⟩ := id hcode
    unfold genexprCode codeAt
    rw [hc, if_neg (show ¬ ((Value.ref 126 == Value.none) = true) from Bool.false_ne_true)]
    refine wpAny_bind (wpAny_fieldsOf ho hd ?_)
    rw [h11]
    refine wpAny_bind (wpAny_fieldsOf hop hpd ?_)
    rw [hnf]
    exact wpAny_pure (hQ cv s.heap s.toks (Heap.ExtBut.refl _ _) (Nat.le_refl _) ⟨ps, hp, ht⟩)

theorem acc_text {x dx : Addr} {items : Array Value} {n : Nat} {od : Obj} {hb : Heap} {Q : Value → Shared → Prop} {ys zs : List Str} (Ts : Nat → Addr) (G : Gnd w hb) (C : CodeHd hb 126 122) (hroom : A.depth + 2 < recursionLimit) (hA : A.handled = none)
    (hk0 : ∀ b o, hb.get? b = some o → s.heap.get? b = some o) (hb0 : hb.get? 122 = none) (T0 : Tabbed s.heap) (B0 : AllBare s.gens)
    (hx : s.heap.get? x = some (accObj dx items n)) 
    (hit : ∀ j, j < items.size → items[j]? = some (.ref (Ts j))) (hv : ∀ j, j < items.size → ∃ t u, s.heap.IsTuple (Ts j) #[.str (ys.getD j ⟨#[]⟩) t, .str (zs.getD j ⟨#[]⟩) u])
    (hlen : ∀ j, (ys.getD j ⟨#[]⟩).length + (zs.getD j ⟨#[]⟩).length ≤ 1000) (hisz : items.size ≤ 10000)
    (h : ∀ t' h' tk' g' d', (∀ b o, b ≠ 122 → s.heap.get? b = some o → h'.get? b = some o) → Tabbed h' → AllBare g' → Q (.str ⟨(laid ((List.range items.size).map fun j => ys.getD j ⟨#[]⟩ ++ zs.getD j ⟨#[]⟩)).toArray⟩ t') ⟨h', g', d', tk', s.os⟩) :
    wpAny (model PR w) A (call (.ref 127) [.ref x]) Q E s := by
  walk_at "mineFill"
  refine wpAny_call ?_
  obtain ⟨ps, hps, hTO⟩ := id T0
  have hk : ∀ b o, (hideAll s.heap [122]).get? b = some o → s.heap.get? b = some o := fun b o e => of_hideAll _ e
  have hb1 : ∀ b o, hb.get? b = some o → (hideAll s.heap [122]).get? b = some o := fun b o e => hideAll_get _ (hk0 b o e) (by rintro hm; rcases List.mem_cons.mp hm with rfl | hm; rw [hb0] at e; cases e; cases hm)
  have hsz' : (hideAll s.heap [122]).objs.size ≤ s.heap.objs.size := Nat.le_of_eq (hideAll_size _ _)
  have hn : ∀ p ∈ [((122 : Addr), tabObj ps)], s.heap.get? p.1 = some p.2 ∧ (hideAll s.heap [122]).get? p.1 = none := by
    intro p hp; rcases List.mem_cons.mp hp with rfl | hp
    · exact ⟨hps, hideAll_none _ (.head _)⟩
    · cases hp
  have G1 := G.keeps hk0
  have G2 := G.keeps hb1
  have X := G1.X
  obtain ⟨p, loose, mean, mg, mb, T⟩ := G1.T
  have hroom0 : A.depth < recursionLimit := by omega
  walk_at "mineBase"
  rename_i h1 F N l1
  clear X hn hk hsz'
  have X := G2.X
  obtain ⟨p2, loose2, mean2, mg2, mb2, T2⟩ := G2.T
  clear G1 
  iterate 7 walk1
  have hext : ∀ b o, s.heap.get? b = some o → h1.get? b = some o := fun b o e => by
    by_cases hb : b = 122
    · subst hb; rw [hps] at e; cases e; exact (N _ (.head _)).1
    · exact F.keep _ _ (hideAll_get _ e (by simpa using hb))
  have hlt : ∀ b o, s.heap.get? b = some o → b < h1.objs.size := fun b o e => Heap.lt_size (hext b o e)
  obtain ⟨tf, uf, hv'⟩ : ∃ tf uf : Nat → Tok, ∀ j, j < items.size → s.heap.IsTuple (Ts j) #[.str (ys.getD j ⟨#[]⟩) (tf j), .str (zs.getD j ⟨#[]⟩) (uf j)] := by
    refine ⟨fun j => if hj : j < items.size then (hv j hj).choose else 0, fun j => if hj : j < items.size then (hv j hj).choose_spec.choose else 0, fun j hj => ?_⟩
    simp only [hj, dif_pos]
    exact (hv j hj).choose_spec.choose_spec
  refine wpAny_GeneratorExp_walksQT (cl := []) hA rfl rfl (by decide) rfl rfl rfl (by decide) rfl ?_ ?_ (fun _ => rfl)
  · rw [depth_deeper]; omega
  iterate 1 walk1
  have G3 := G.keeps hk0 |>.keeps hext
  refine acc_iter G3.X ⟨dx, n, hext _ _ hx⟩ ⟨(T2.nolimit.keeps F.keep).push _, ?_⟩
  have hpush : ∀ b o, s.heap.get? b = some o → (h1.push { cls := .type "list_iterator", data := .fields #[.ref x, .int 0 0] }).get? b = some o := fun b o e => Heap.get?_push_of_some _ (hext b o e)
  refine gen_code rfl ((C.keeps hk0).keeps hpush) (T0.at fun o e => hpush _ _ e) fun code h4 tk4 hx4 hge4 T4 => ?_
  obtain ⟨bm, ob, M⟩ := bmod_of_top T2
  have hne : ∀ b o, (hideAll s.heap [122]).get? b = some o → b ≠ 122 := fun b o e => by
    rintro rfl; rw [hideAll_none [122] (.head _)] at e; cases e
  have hbase : ∀ b o, (hideAll s.heap [122]).get? b = some o → h4.get? b = some o := fun b o e => hx4 b o (hne b o e) (hpush b o (of_hideAll _ e))
  have M4 := M.keeps hbase
  refine wpAny_builtinsFor M4.ns M4.name M4.ne M4.obj M4.cls M4.dict M4.data ?_
  have hxne : x ≠ 122 := by rintro rfl; rw [hx] at hps; cases hps
  have hTne : ∀ j, j < items.size → Ts j ≠ 122 := fun j hj e => by
    obtain ⟨o, ho, hc, _⟩ := hv' j hj
    rw [e, hps] at ho; cases ho; cases hc
  have hIne : h1.objs.size ≠ 122 := Nat.ne_of_gt (hlt _ _ hps)
  have hold : ∀ b o, b ≠ 122 → s.heap.get? b = some o → h4.get? b = some o := fun b o hb e => hx4 b o hb (hpush b o e)
  have hI4 : h4.get? h1.objs.size = some { cls := .type "list_iterator", data := .fields #[.ref x, .int 0 0] } := hx4 _ _ hIne (Heap.get?_push_size _ rfl)
  have hsz4 : h1.objs.size < h4.objs.size := Heap.lt_size hI4
  refine ⟨h1.objs.size, h1.objs.size :: x :: (List.range items.size).map Ts, [h1.objs.size], items.size, (fun j v => v = #[.str (ys.getD j ⟨#[]⟩) (tf j), .str (zs.getD j ⟨#[]⟩) (uf j)]), _, _, fun _ => true, fun j v => ∃ u, v = .str (ys.getD j ⟨#[]⟩ ++ zs.getD j ⟨#[]⟩) u, rfl,
    fun A' hA' => walks_acc hA' h1.objs.size x (Nat.ne_of_lt (hlt _ _ hx)) items Ts (fun j => #[.str (ys.getD j ⟨#[]⟩) (tf j), .str (zs.getD j ⟨#[]⟩) (uf j)]) hit (fun j hj => by obtain ⟨o, ho, _⟩ := hv' j hj; exact Nat.ne_of_lt (hlt _ _ ho)),
    (fun i vals e => ⟨_, _, e⟩), ⟨⟨_, hI4, rfl, rfl⟩, ⟨dx, n, hold _ _ hxne hx⟩, fun k hk => (hv' k hk).at fun o e => hold _ o (hTne k hk) e⟩, ?_, ?_, ?_, ?_, ?_⟩
  · intro b hb
    rcases List.mem_cons.mp hb with rfl | hb
    · exact hsz4
    · rcases List.mem_cons.mp hb with rfl | hb
      · exact Nat.lt_trans (hlt _ _ hx) hsz4
      · obtain ⟨k, hk, rfl⟩ := List.mem_map.mp hb
        obtain ⟨o, ho, _⟩ := hv' k (List.mem_range.mp hk)
        exact Nat.lt_trans (hlt _ _ ho) hsz4
  · exact T2.nolimit.keeps hbase
  · intro hm
    rcases List.mem_cons.mp hm with e | hm
    · have := hlt _ _ hps
      rw [← e] at this
      exact absurd this (by decide)
    · cases hm
  · intro href hhref
    refine ⟨fun A' E' i va vb s₂ m₂ hA' hP hn hma hmb hkp => ?_, fun A' E' i va vb s₂ m₂ hA' hP _ hn hma hmb hkp => ?_⟩
    · show wpAny _ _ (pure true) _ _ _
      exact wpAny_pure ⟨rfl, s₂.heap, s₂.toks, rfl, fun _ _ e => e⟩
    obtain ⟨rfl, rfl⟩ : va = .str (ys.getD i ⟨#[]⟩) (tf i) ∧ vb = .str (zs.getD i ⟨#[]⟩) (uf i) := by simpa using hP
    have Fe : Fr (hideAll s.heap [122]) h4.objs.size s₂.heap m₂ := ⟨hn, fun b o e => hkp b (List.mem_range.mpr (Heap.lt_size (hbase b o e))) (by
      intro hm; rcases List.mem_cons.mp hm with e' | hm
      · exact absurd (hlt b o (of_hideAll _ e)) (by rw [e']; exact Nat.lt_irrefl _)
      · cases hm) o (hhref b o (hbase b o e)), Nat.le_trans (Nat.le_of_eq (hideAll_size _ _)) (Nat.le_trans (Nat.le_of_lt F.ns.lt) (Nat.le_of_lt hsz4) |> fun z => Nat.le_trans (Nat.le_of_lt (Nat.lt_of_lt_of_le (Nat.lt_succ_self _) (Nat.succ_le_of_lt F.ns.lt))) (Nat.le_of_lt hsz4))⟩
    have Ne : News (hideAll s.heap [122]) h4.objs.size s₂.heap [] := News.nil
    obtain ⟨te, hmE⟩ : ∃ te, mg2 "EMPTYSTRING" = some (.str ⟨#[]⟩ te) := ⟨_, mg_of X T2.g rfl⟩
    have N2 := T2.g.keeps Fe.keep
    clear F N M M4 hv' hit hTne hext hlt hpush hne hold hI4 hsz4 hIne hxne hv G3 T0 T4 h B0 C hps hTO hx T l1
    obtain ⟨hh2, gg2, dd2, tk2, os2⟩ := s₂
    iterate 1 walk1
    refine Name_function_global rfl rfl (loadGlobal_global N2 hmE ?_) (by decide)
    iterate 5 walk1
    refine ldVarG Fe hma ?_
    iterate 1 walk1
    refine ldVarG Fe hmb ?_
    iterate 1 walk1
    simp only [newTuple]
    refine wpAny_newObj_type ?_ (by size_fits)
    have Fe2 := Fe.push { cls := .type "tuple", data := .seq #[.str (ys.getD i ⟨#[]⟩) (tf i), .str (zs.getD i ⟨#[]⟩) (uf i)] }
    iterate 1 walk1
    refine join_tuple ⟨_, Heap.get?_push_size _ rfl, rfl, 0, rfl⟩ (.cons _ _ (.cons _ _ .nil)) ?_ fun t' k' => ?_
    · have := hlen i
      simp only [List.map_cons, List.map_nil, List.sum_cons, List.sum_nil, List.length_cons, List.length_nil]
      show _ + _ * 0 ≤ _
      omega
    · refine ⟨⟨t', ?_⟩, _, _, rfl, fun b o e => Heap.get?_push_of_some _ e⟩
      rw [join_empty]
      congr 1
      show (⟨_⟩ : Str) = ⟨_ ++ _⟩
      congr 1
      simp [laid]
  · intro a h5 tk5 gs hgb hag hsz5 hk5 W hat
    obtain ⟨ps4, hp4, ht4⟩ := T4
    have hpass : passing (fun _ => true) items.size 0 = List.range items.size := by simp [passing]
    rw [hpass, List.length_range] at W
    have hold5 : ∀ b o, b ≠ 122 → h1.get? b = some o → h5.get? b = some o := fun b o hb e => hk5 b o (hx4 b o hb (Heap.get?_push_of_some _ e))
    have hLne : s.heap.objs.size ≠ 122 := Nat.ne_of_gt (Heap.lt_size hps)
    obtain ⟨mF, hmF⟩ : ∃ mF, h1.Ns s.heap.objs.size mF := ⟨_, F.ns⟩
    have FB : Fr (s.heap.update 122 (fun _ => tabObj ps4)) s.heap.objs.size h5 mF := by
      refine ⟨hmF.at' fun o e => hold5 _ o hLne e, fun b o e => ?_, Nat.le_of_eq (Heap.size_after_update ..)⟩
      by_cases hb : b = 122
      · subst hb
        rw [Heap.get?_update_self _ hps rfl] at e
        cases e
        exact hk5 _ _ hp4
      · rw [Heap.get?_update_other _ _ (Ne.symm hb)] at e
        exact hold5 b o hb (hext b o e)
    iterate 1 walk1
    dsimp only
    refine join_rows (L := s.heap.objs.size) (n := items.size) FB (B0.push hgb) ⟨_, _, _, _, W, hat, (fun i s' st => st.1.typeIs), List.mem_cons_self, ?_, ?_⟩ (fun j => ys.getD j ⟨#[]⟩ ++ zs.getD j ⟨#[]⟩) ?_ ?_ (fun s' t' F' G' hos => ?_) (by rw [sizeLine_eq]; omega)
    · intro b hb
      show b < h5.objs.size
      rw [hsz5]
      rcases List.mem_cons.mp hb with rfl | hb
      · exact Nat.lt_succ_self _
      · rcases List.mem_cons.mp hb with rfl | hb
        · exact Nat.lt_succ_of_lt hag
        · exact Nat.lt_succ_of_lt (Nat.lt_trans (List.mem_range.mp hb) hag)
    · intro b hb
      have hL1 : s.heap.objs.size < h1.objs.size := F.ns.lt
      rcases List.mem_cons.mp hb with rfl | hb
      · exact Nat.lt_trans hL1 hsz4
      · rcases List.mem_cons.mp hb with rfl | hb
        · exact hL1
        · cases hb
    · intro j v hvj
      obtain ⟨i, hi, u, rfl⟩ := hvj
      have hi' : i = j := by
        obtain ⟨hlt', e⟩ := List.getElem?_eq_some_iff.mp hi
        rw [List.getElem_range] at e
        exact e.symm
      subst hi'
      exact ⟨u, rfl⟩
    · refine joinOk_of ?_
      have hsum : ∀ l : List Nat, ((l.map fun j => ys.getD j ⟨#[]⟩ ++ zs.getD j ⟨#[]⟩).map (·.length)).sum ≤ 1000 * l.length := by
        intro l
        induction l with
        | nil => exact Nat.le_refl _
        | cons a l ih =>
          simp only [List.map_cons, List.sum_cons, List.length_cons]
          have h1 := hlen a
          have h2 : (ys.getD a ⟨#[]⟩ ++ zs.getD a ⟨#[]⟩).length = (ys.getD a ⟨#[]⟩).length + (zs.getD a ⟨#[]⟩).length := by
            show (_ ++ _ : Array Nat).size = _
            rw [Array.size_append]; rfl
          rw [h2]
          omega
      have h1 := hsum (List.range items.size)
      rw [List.length_range] at h1
      show _ + _ * 0 ≤ _
      omega
    · have ej : Txt.join (Str.ofString "") (List.map (fun j => ys.getD j ⟨#[]⟩ ++ zs.getD j ⟨#[]⟩) (List.range items.size)) = ⟨(laid ((List.range items.size).map fun j => ys.getD j ⟨#[]⟩ ++ zs.getD j ⟨#[]⟩)).toArray⟩ := join_empty _
      rw [ej]
      have kp : ∀ b o, b ≠ 122 → s.heap.get? b = some o → s'.heap.get? b = some o := fun b o hb e => F'.keep b o (by rw [Heap.get?_update_other _ _ (Ne.symm hb)]; exact e)
      obtain ⟨h', g', d', tk', os'⟩ := s'
      cases hos
      exact h t' h' tk' g' d' kp ⟨ps4, F'.keep 122 _ (Heap.get?_update_self _ hps rfl), ht4⟩ G'
end
end
section
/- the part Comp1 -/
open PySem PySem.W PyProof.Rows PySem.Spec PySem.Calls PySem.W.X
set_option maxRecDepth 100000
set_option maxHeartbeats 1000000
set_option pp.deepTerms false
set_option pp.deepTerms.threshold 8

section
variable {w : World} {A : Around} {s : Shared} {E : Value → Shared → Prop} {env : Env}

theorem lst_snoc' (ys : Array Value) (n : Nat) (y : Value) : Obj.mapSeq (·.push y) { cls := .type "list", data := .seq ys n } = { cls := .type "list", data := .seq (ys.push y) (n + 1) } := Obj.mapSeq_push_plain ys n y

/-- what the turns of a comprehension over pairs keep; the heap in the relation -/
structure PairTurnsH (w : World) (A : Around) (env : Env) (elt : Expr) (scope : Scope) (cl : List (Str × Addr)) (xa xb : Str) (I : Addr) (fp wr : List Addr) (n : Nat) (Pt : Nat → Array Value → Prop) (St : Nat → Heap → Prop) (Mid : Nat → Addr → Heap → Prop) (F : Nat → Value → Heap → Prop) (s₂ : Shared) : Prop where
  walk : WalksU PR w A I fp wr n Pt St Mid
  two : ∀ i vals, Pt i vals → ∃ va vb, vals = #[va, vb]
  few : n ≤ 1000000
  mono : ∀ i y h h', F i y h → (∀ b o, s₂.heap.objs.size + 1 < b → h.get? b = some o → h'.get? b = some o) → F i y h'
  start : St 0 s₂.heap
  low : ∀ b ∈ fp, b < s₂.heap.objs.size
  elt : ∀ C E' i va vb (t : Shared) m₂, i < n → s₂.heap.objs.size < C → Pt i #[va, vb] → t.heap.Ns C m₂ → m₂ xa = some va → m₂ xb = some vb → (∀ b o, b ∉ wr → s₂.heap.get? b = some o → t.heap.get? b = some o) →
        wpAny (model PR w) A (eval elt (compEnvC scope cl C env)) (fun y s₃ => F i y s₃.heap ∧ Keeps t s₃) E' t

theorem pairs_blockH {elt iter : Expr} {xa xb : Str} {pa pb pt : Pos} {kt : Nat} {scope : Scope} {cl : List (Str × Addr)} {pos : Pos} {I : Addr} {fp wr : List Addr} {n : Nat} {Pt : Nat → Array Value → Prop} {St : Nat → Heap → Prop} {Mid : Nat → Addr → Heap → Prop} {F : Nat → Value → Heap → Prop} {s₂ : Shared} {RR : Value → Addr → Result → Shared → Prop}
    (hcell : ∀ y ∈ scope.names, y.2 ≠ .cell) (hkind : scope.kind = .function) (hxa : scope.names.lookup xa = some .local) (hxb : scope.names.lookup xb = some .local) (hab : xa ≠ xb) (hh : A.handled = none)
    (T : PairTurnsH w A env elt scope cl xa xb I fp wr n Pt St Mid F s₂)
    (hfin : ∀ C h' tk ys m', s₂.heap.objs.size < C → C = s₂.heap.objs.size + 1 → h'.Ns C m' → h'.PlainList s₂.heap.objs.size ys → ys.size = n → (∀ j y, ys[j]? = some y → F j y h') → (∀ b o, b ∉ wr → s₂.heap.get? b = some o → h'.get? b = some o) → RR (.ref s₂.heap.objs.size) C (.ok .next) { s₂ with heap := h', toks := tk }) :
    wpAny (model PR w) A (newList []) (fun acc s₃ => wpAny (model PR w) A (newFunctionEnv scope env.globals cl [] env.qual none .none (some env)) (fun cenv s₄ =>
      codeAny (model PR w) A (.compStart (.ListComp elt [⟨.Tuple [.Name xa pa, .Name xb pb] kt pt, iter, [], 0⟩] scope pos) 0 (.ref I) acc { cenv with scope := relabel scope env }) (RR acc cenv.locals) s₄) E s₃) E s₂ := by
  obtain ⟨W, hsz2, hn, hmono, hst, hfp, helt⟩ := T
  refine wpAny_newObj_type (wpAny_newFunctionEnv hcell (by intro y hy; simp at hy) (fun h₁ hns₁ hsb₁ => ?_) hkind)
  dsimp only at hns₁ hsb₁ ⊢
  generalize hH2 : s₂.heap.push { cls := .type "list", dict := none, data := .seq ([] : List Value).toArray } = H2 at hns₁ hsb₁ ⊢
  have hC : H2.objs.size = s₂.heap.objs.size + 1 := by rw [← hH2, Heap.size_push]
  have below : ∀ b, b < s₂.heap.objs.size → b ≠ H2.objs.size ∧ b ≠ s₂.heap.objs.size := fun b hb => ⟨by rw [hC]; exact Nat.ne_of_lt (Nat.lt_succ_of_lt hb), Nat.ne_of_lt hb⟩
  have hDC : s₂.heap.objs.size ≠ H2.objs.size := by rw [hC]; exact Nat.ne_of_lt (Nat.lt_succ_self _)
  have old : ∀ b o, s₂.heap.get? b = some o → h₁.get? b = some o := fun b o e => hsb₁.extBut b o (below b (Heap.lt_size e)).1 (Heap.get?_push_of_some _ (hH2 ▸ Heap.get?_push_of_some _ e))
  have hD1 : h₁.PlainList s₂.heap.objs.size #[] := ⟨0, hsb₁.extBut _ _ hDC (Heap.get?_push_of_some _ (hH2 ▸ Heap.get?_push_size _ rfl))⟩
  have hCf : H2.objs.size ∉ fp := fun hm => (below _ (hfp _ hm)).1 rfl
  have hDf : s₂.heap.objs.size ∉ fp := fun hm => (below _ (hfp _ hm)).2 rfl
  have hCw : H2.objs.size ∉ wr := fun hm => hCf (W.sub _ hm)
  have hDw : s₂.heap.objs.size ∉ wr := fun hm => hDf (W.sub _ hm)
  have hleC : s₂.heap.objs.size < H2.objs.size := by rw [hC]; exact Nat.lt_succ_self _
  have far : ∀ b, s₂.heap.objs.size + 1 < b → b ∉ wr ∧ b ≠ H2.objs.size ∧ b ≠ s₂.heap.objs.size := fun b hb => ⟨fun hm => absurd (hfp _ (W.sub _ hm)) (Nat.not_lt.mpr (Nat.le_of_lt (Nat.lt_of_succ_lt hb))), by rw [hC]; exact Nat.ne_of_gt hb, Nat.ne_of_gt (Nat.lt_of_succ_lt hb)⟩
  have hst₁ : St 0 h₁ := W.frame _ _ _ hst fun b _ o e => old b o e
  have loop : ∀ s₃ : Shared, s₃ = { s₂ with heap := h₁, toks := s₂.toks + ([] : List (Str × Value)).length } →
      codeAny (model PR w) A (.compLoop (.ListComp elt [⟨.Tuple [.Name xa pa, .Name xb pb] kt pt, iter, [], 0⟩] scope pos) 0 (.ref I) (.ref s₂.heap.objs.size) (compEnvC scope cl H2.objs.size env))
        (RR (.ref s₂.heap.objs.size) H2.objs.size) s₃ := by
    rintro s₃ rfl
    refine LCp.codeAny_compLoop_pair
      (fun k s' => ∃ h' tk i ys m', s' = { s₂ with heap := h', toks := tk } ∧ i ≤ n ∧ k = n + 1 - i ∧ ys.size = i ∧ St i h' ∧ h'.Ns H2.objs.size m' ∧ h'.PlainList s₂.heap.objs.size ys ∧ (∀ j y, ys[j]? = some y → F j y h') ∧
        (∀ b o, b ∉ wr → s₂.heap.get? b = some o → h'.get? b = some o)) ?_ (n + 1)
      ⟨h₁, _, 0, #[], _, rfl, Nat.zero_le _, rfl, rfl, hst₁, hns₁, hD1, (fun j y e => by simp at e), fun b o _ e => old b o e⟩
    rintro k s' ⟨h', tk, i, ys, m', rfl, hi, rfl, hyl, hst', hn', hD', hF', hold'⟩
    by_cases hlt : i < n
    · refine W.item i _ _ _ hlt hst' fun T vals h₂ tk₂ hPv hT hmid hk₂ => ?_
      obtain ⟨va, vb, rfl⟩ := hsz2 i vals hPv
      refine W.go _ _ _ i T _ _ _ hmid fun h₃ hst₃ hk₃ => ?_
      have hT₃ : h₃.IsTuple T #[va, vb] := let ⟨o, e, r⟩ := hT; ⟨o, hk₃ _ o (W.apart i T _ hmid) e, r⟩
      refine wpAny_assign_Tuple hh hT₃ rfl rfl fun h₄ hx₄ => ?_
      have old₄ : ∀ b o, h₃.get? b = some o → h₄.get? b = some o := fun b o e => hx₄ b o (Nat.ne_of_lt (Heap.lt_size e)) e
      show wpAny _ _ (do holding [vb] (assign (.Name xa pa) (compEnvC scope cl H2.objs.size env) va); do holding [] (assign (.Name xb pb) (compEnvC scope cl H2.objs.size env) vb); pure ()) _ _ _
      have hnC : h₄.Ns H2.objs.size m' := hn'.at' fun o e => old₄ _ o (hk₃ _ o hCw (hk₂ _ o hCw e))
      refine wpAny_bind (wpAny_holding (wpAny_assign_Name (wpAny_storeName_local (lookup_relabel_local hxa) hnC (fun h₅ hn₅ hs₅ => ?_) (by simp [compEnvC, relabel, hkind]))))
      refine wpAny_bind (wpAny_holding (wpAny_assign_Name (wpAny_storeName_local (lookup_relabel_local hxb) hn₅ (fun h₆ hn₆ hs₆ => wpAny_pure ?_) (by simp [compEnvC, relabel, hkind]))))
      have up₆ : ∀ b o, b ≠ H2.objs.size → b ∉ wr → h'.get? b = some o → h₆.get? b = some o := fun b o hb hw e => hs₆.extBut b o hb (hs₅.extBut b o hb (old₄ b o (hk₃ b o hw (hk₂ b o hw e))))
      have hst₆ : St (i + 1) h₆ := W.frame _ _ _ hst₃ fun b hb o e => hs₆.extBut b o (fun q => hCf (by have q' : b = H2.objs.size := q; rw [← q']; exact hb)) (hs₅.extBut b o (fun q => hCf (by have q' : b = H2.objs.size := q; rw [← q']; exact hb)) (old₄ b o e))
      refine wpAny_mono (helt _ _ i va vb _ _ hlt hleC hPv hn₆ (by simp [hab]) (by simp) fun b o hw e => up₆ b o (below b (Heap.lt_size e)).1 hw (hold' b o hw e)) (fun y s₃ h₃ => ?_) fun _ _ e => e
      obtain ⟨hFy, h₇, tk₇, rfl, hk₇⟩ := h₃
      have hD₇ : h₇.PlainList s₂.heap.objs.size ys := hD'.at fun o e => hk₇ _ o (up₆ _ o hDC hDw e)
      refine wpAny_list_append_plain hD₇ (fun h₈ hD₈ hs₈ => ?_) (by rw [hyl, sizeLine_eq]; omega)
      obtain ⟨m₈, hn₈⟩ : ∃ m₈, h₈.Ns H2.objs.size m₈ := ⟨_, (hn₆.keeps hk₇).at' (h' := h₈) fun o e => hs₈.extBut _ o (Ne.symm hDC) e⟩
      refine ⟨n + 1 - (i + 1), by omega, h₈, tk₇, i + 1, ys.push y, m₈, rfl, hlt, rfl, by rw [Array.size_push, hyl], ?_, hn₈, hD₈, ?_, ?_⟩
      · exact W.frame _ _ _ hst₆ fun b hb o e => hs₈.extBut b o (fun q => hDf (q ▸ hb)) (hk₇ b o e)
      · intro j y' e
        rw [Array.getElem?_push] at e
        split at e
        · rename_i hj
          cases e
          rw [hj, hyl]
          exact hmono _ _ _ _ hFy fun b o hb e => hs₈.extBut b o (far b hb).2.2 e
        · exact hmono _ _ _ _ (hF' j y' e) fun b o hb e => hs₈.extBut b o (far b hb).2.2 (hk₇ b o (up₆ b o (far b hb).2.1 (far b hb).1 e))
      · exact fun b o hw e => hs₈.extBut b o (below b (Heap.lt_size e)).2 (hk₇ b o (up₆ b o (below b (Heap.lt_size e)).1 hw (hold' b o hw e)))
    · obtain rfl : i = n := Nat.le_antisymm hi (Nat.not_lt.mp hlt)
      refine W.done _ _ _ hst' fun h₂ tk₂ hk₂ => ?_
      exact hfin _ h₂ tk₂ ys m' (by rw [hC]; exact Nat.lt_succ_self _) hC (hn'.at' fun o e => hk₂ _ o hCw e) (hD'.at fun o e => hk₂ _ o hDw e) hyl (fun j y e => hmono _ _ _ _ (hF' j y e) fun b o hb e => hk₂ b o (far b hb).1 e) fun b o hw e => hk₂ b o hw (hold' b o hw e)
  exact codeAny_compStart_list (loop _ rfl) (W.self 0 _ _ _ hst₁ (loop _ rfl))

theorem ListComp_pairsH {elt iter : Expr} {xa xb : Str} {pa pb pt : Pos} {kt : Nat} {scope : Scope} {cl : List (Str × Addr)} {pos : Pos} {Q : Value → Shared → Prop}
    (hclos : closureFor scope env = pure cl) (hcell : ∀ y ∈ scope.names, y.2 ≠ .cell) (hkind : scope.kind = .function)
    (hnames : ∀ y ∈ scope.names, y.2 = .local → scope.names.lookup y.1 = some .local) (hxa : scope.names.lookup xa = some .local) (hxb : scope.names.lookup xb = some .local) (hab : xa ≠ xb) (hh : A.handled = none)
    (h : wpAny (model PR w) A (eval iter env) (fun xv s₁ => wpAny (model PR w) A (pyIter xv) (fun it s₂ => ∃ I fp wr n Pt St Mid F, it = .ref I ∧ PairTurnsH w A env elt scope cl xa xb I fp wr n Pt St Mid F s₂ ∧
      (∀ D h' tk ys, s₂.heap.objs.size ≤ D → h'.PlainList D ys → ys.size = n → (∀ j y, ys[j]? = some y → F j y h') → (∀ b o, b ∉ wr → s₂.heap.get? b = some o → h'.get? b = some o) → Q (.ref D) { s₂ with heap := h', toks := tk })) E s₁) E s)
    (hs : ∀ x, foldedSetIterable iter env x = pure x := by intro _; rfl) :
    wpAny (model PR w) A (eval (.ListComp elt [⟨.Tuple [.Name xa pa, .Name xb pb] kt pt, iter, [], 0⟩] scope pos) env) Q E s := by
  rw [eval_ListComp]
  refine wpAny_comprehension_free (use := none) rfl hs hclos hkind hnames (wpAny_mono h (fun xv s₁ h₁ => wpAny_mono h₁ (fun it s₂ h₂ => ?_) fun _ _ e => e) fun _ _ e => e)
  obtain ⟨I, fp, wr, n, Pt, St, Mid, F, rfl, T, hfin⟩ := h₂
  refine pairs_blockH (RR := fun acc C => compPost (model PR w) A E none Q acc C) hcell hkind hxa hxb hab hh T fun C h' tk ys m' hC hCeq hn' hD hsz hF hk => ?_
  have hCne : ∀ b, s₂.heap.objs.size + 1 < b → b ≠ C := fun b hb => Nat.ne_of_gt (hCeq ▸ hb)
  exact ⟨m', hn', fun h'' hs'' => hfin _ h'' tk ys (Nat.le_refl _) (hD.at fun o e => hs''.extBut _ o (Nat.ne_of_lt hC) e) hsz (fun j y e => T.mono _ _ _ _ (hF j y e) fun b o hb e => hs''.extBut b o (hCne b hb) e) fun b o hw e => hs''.extBut b o (Nat.ne_of_lt (Nat.lt_trans (Heap.lt_size e) hC)) (hk b o hw e)⟩

/-- what the turns of a comprehension over pairs keep -/
structure PairTurns (w : World) (A : Around) (env : Env) (elt : Expr) (scope : Scope) (cl : List (Str × Addr)) (xa xb : Str) (I : Addr) (fp wr : List Addr) (n : Nat) (Pt : Nat → Array Value → Prop) (St : Nat → Heap → Prop) (Mid : Nat → Addr → Heap → Prop) (F : Nat → Value → Prop) (s₂ : Shared) : Prop where
  walk : WalksU PR w A I fp wr n Pt St Mid
  two : ∀ i vals, Pt i vals → ∃ va vb, vals = #[va, vb]
  few : n ≤ 1000000
  start : St 0 s₂.heap
  low : ∀ b ∈ fp, b < s₂.heap.objs.size
  elt : ∀ C E' i va vb (t : Shared) m₂, i < n → s₂.heap.objs.size ≤ C → Pt i #[va, vb] → t.heap.Ns C m₂ → m₂ xa = some va → m₂ xb = some vb → (∀ b o, b ∉ wr → s₂.heap.get? b = some o → t.heap.get? b = some o) →
        wpAny (model PR w) A (eval elt (compEnvC scope cl C env)) (fun y s₃ => F i y ∧ Keeps t s₃) E' t

theorem PairTurns.toH {w : World} {A : Around} {env : Env} {elt : Expr} {scope : Scope} {cl : List (Str × Addr)} {xa xb : Str} {I : Addr} {fp wr : List Addr} {n : Nat} {Pt : Nat → Array Value → Prop} {St : Nat → Heap → Prop} {Mid : Nat → Addr → Heap → Prop} {F : Nat → Value → Prop} {s₂ : Shared} (T : PairTurns w A env elt scope cl xa xb I fp wr n Pt St Mid F s₂) :
    PairTurnsH w A env elt scope cl xa xb I fp wr n Pt St Mid (fun i y _ => F i y) s₂ where
  walk := T.walk
  two := T.two
  few := T.few
  mono := fun _ _ _ _ x _ => x
  start := T.start
  low := T.low
  elt := fun C E' i va vb t m₂ hi hC => T.elt C E' i va vb t m₂ hi (Nat.le_of_lt hC)
theorem pairs_block {elt iter : Expr} {xa xb : Str} {pa pb pt : Pos} {kt : Nat} {scope : Scope} {cl : List (Str × Addr)} {pos : Pos} {I : Addr} {fp wr : List Addr} {n : Nat} {Pt : Nat → Array Value → Prop} {St : Nat → Heap → Prop} {Mid : Nat → Addr → Heap → Prop} {F : Nat → Value → Prop} {s₂ : Shared} {RR : Value → Addr → Result → Shared → Prop}
    (hcell : ∀ y ∈ scope.names, y.2 ≠ .cell) (hkind : scope.kind = .function) (hxa : scope.names.lookup xa = some .local) (hxb : scope.names.lookup xb = some .local) (hab : xa ≠ xb) (hh : A.handled = none)
    (T : PairTurns w A env elt scope cl xa xb I fp wr n Pt St Mid F s₂)
    (hfin : ∀ C h' tk ys m', s₂.heap.objs.size < C → h'.Ns C m' → h'.PlainList s₂.heap.objs.size ys → ys.size = n → (∀ j y, ys[j]? = some y → F j y) → (∀ b o, b ∉ wr → s₂.heap.get? b = some o → h'.get? b = some o) → RR (.ref s₂.heap.objs.size) C (.ok .next) { s₂ with heap := h', toks := tk }) :
    wpAny (model PR w) A (newList []) (fun acc s₃ => wpAny (model PR w) A (newFunctionEnv scope env.globals cl [] env.qual none .none (some env)) (fun cenv s₄ =>
      codeAny (model PR w) A (.compStart (.ListComp elt [⟨.Tuple [.Name xa pa, .Name xb pb] kt pt, iter, [], 0⟩] scope pos) 0 (.ref I) acc { cenv with scope := relabel scope env }) (RR acc cenv.locals) s₄) E s₃) E s₂ :=
  pairs_blockH hcell hkind hxa hxb hab hh T.toH fun C h' tk ys m' hC _ => hfin C h' tk ys m' hC

theorem Assign_pairs {elt iter : Expr} {xa xb y : Str} {pa pb pt py : Pos} {kt : Nat} {scope : Scope} {cl : List (Str × Addr)} {pos spos : Pos} {Q : Flow → Shared → Prop}
    (hsw : swapsWith (.ListComp elt [⟨.Tuple [.Name xa pa, .Name xb pb] kt pt, iter, [], 0⟩] scope pos) (some (.Name y py)) spos.line env = pure true)
    (hclos : closureFor scope env = pure cl) (hcell : ∀ y ∈ scope.names, y.2 ≠ .cell) (hkind : scope.kind = .function)
    (hnames : ∀ y ∈ scope.names, y.2 = .local → scope.names.lookup y.1 = some .local) (hxa : scope.names.lookup xa = some .local) (hxb : scope.names.lookup xb = some .local) (hab : xa ≠ xb) (hh : A.handled = none)
    (hy : env.kindOf y = some .local) (hp : (env.scope.kind == .class || (env.scope.kind == .module && env.locals != env.globals)) = false)
    (h : wpAny (model PR w) A (eval iter env) (fun xv s₁ => wpAny (model PR w) A (pyIter xv) (fun it s₂ => ∃ I fp wr n Pt St Mid F m, it = .ref I ∧ PairTurns w A env elt scope cl xa xb I fp wr n Pt St Mid F s₂ ∧ env.locals ∉ wr ∧ s₂.heap.Ns env.locals m ∧
      (∀ D h' tk ys, s₂.heap.objs.size ≤ D → h'.PlainList D ys → ys.size = n → (∀ j y, ys[j]? = some y → F j y) → h'.Ns env.locals (fun z => if z = y then some (.ref D) else m z) →
        (∀ b o, b ≠ env.locals → b ∉ wr → s₂.heap.get? b = some o → h'.get? b = some o) → Q .next { s₂ with heap := h', toks := tk })) E s₁) E s)
    (hs : ∀ x, foldedSetIterable iter env x = pure x := by intro _; rfl) :
    wpAny (model PR w) A (exec (.Assign [.Name y py] (.ListComp elt [⟨.Tuple [.Name xa pa, .Name xb pb] kt pt, iter, [], 0⟩] scope pos) spos) env) Q E s := by
  rw [exec_Assign_Name_used _ _ _ _ hsw]
  refine wpAny_bind (wpAny_standAt (wpAny_bind ?_))
  show wpAny _ A (do let _ ← comprehension (.ListComp elt [⟨.Tuple [.Name xa pa, .Name xb pb] kt pt, iter, [], 0⟩] scope pos) scope env _ (newList []) false (eval iter env) (some (assign (.Name y py) env))) _ _ s
  refine wpAny_bind (wpAny_mono (wpAny_comprehension_free (use := some (assign (.Name y py) env)) (Q := fun _ s' => Q .next s') rfl hs hclos hkind hnames
    (wpAny_mono h (fun xv s₁ h₁ => wpAny_mono h₁ (fun it s₂ h₂ => ?_) fun _ _ e => e) fun _ _ e => e)) (fun _ s' hq => wpAny_pure (wpAny_pure hq)) fun _ _ e => e)
  obtain ⟨I, fp, wr, n, Pt, St, Mid, F, m, rfl, T, hLw, hL, hfin⟩ := h₂
  refine pairs_block (RR := fun acc C => compPost (model PR w) A E (some (assign (.Name y py) env)) (fun _ s' => Q .next s') acc C) hcell hkind hxa hxb hab hh T fun C h' tk ys m' hC hn' hD hsz hF hk => ?_
  show wpAny _ A (assign (.Name y py) env (.ref s₂.heap.objs.size)) _ _ _
  have hLlt : env.locals < s₂.heap.objs.size := hL.lt
  have hL' : h'.Ns env.locals m := hL.at' fun o e => hk _ o hLw e
  refine wpAny_assign_Name (wpAny_storeName_local hy hL' (fun h₂ hn₂ hs₂ => ?_) hp)
  have hCL : C ≠ env.locals := Nat.ne_of_gt (Nat.lt_trans hLlt hC)
  refine ⟨m', hn'.sameBut hs₂ hCL, fun h'' hs'' => ?_⟩
  exact hfin _ h'' _ ys (Nat.le_refl _) (hD.at fun o e => hs''.extBut _ o (Nat.ne_of_lt hC) (hs₂.extBut _ o (Nat.ne_of_gt hLlt) e)) hsz hF (hn₂.sameBut hs'' (Ne.symm hCL))
    fun b o hb hw e => hs''.extBut b o (Nat.ne_of_lt (Nat.lt_trans (Heap.lt_size e) hC)) (hs₂.extBut b o hb (hk b o hw e))
end
end
section
/- the part LeafC -/
open PySem PySem.W PyProof.Rows PySem.Spec PySem.Calls
set_option maxRecDepth 100000
/-- enter a def of the written part that has cells; the base chosen; no exception leaves it -/
theorem leafC {w : World} {A : Around} {R : Result → Shared → Prop} {s : Shared} {h₀ : Heap} {K : Frag} {p : Program} {loose : List Str} {mean : ExcName → Option Value} {mg mb : Str → Option Value}
    {name qual : Str} {params : Arguments} {body : List Stmt} {scope : Scope} {dV kV doc pm cdv ct oc : Value} {an od : Option Addr} {osl : Array (Option Value)} {f : Addr} {args : Args} {binds : List (Str × Value)}
    (X : K.In s.heap) (T : Top p loose mean mg mb s.heap) (hk0 : ∀ b o, h₀.get? b = some o → s.heap.get? b = some o) (hsz : h₀.objs.size ≤ s.heap.objs.size)
    (ho : K.lookup f = some ⟨oc, od, .func (fnOf name qual params body scope dV kV doc pm an cdv ct), osl⟩) (hcd : codeIn K cdv qual = true) (hroom : A.depth < recursionLimit)
    (hbind : BindsTo s (fnOf name qual params body scope dV kV doc pm an cdv ct) args binds) (hkind : (binds.all fun y => scope.names.lookup y.1 == some .local || scope.names.lookup y.1 == some .cell) = true)
    (hnd : ((cellsFrom 0 scope.names []).map (·.1)).Nodup)
    (h : ∀ h₁ tk cells, Fr h₀ s.heap.objs.size h₁ (bindL (envOfC qual scope s.heap.objs.size f cdv).kindOf binds fun _ => none) → News h₀ s.heap.objs.size h₁ cells →
      CellsAre (bindC (envOfC qual scope s.heap.objs.size f cdv).kindOf binds fun _ => none) (cellsFrom (s.heap.objs.size + 1) scope.names []) cells → (∀ b o, s.heap.get? b = some o → h₁.get? b = some o) →
      wpAny (model PR w) (A.deeper (envOfC qual scope s.heap.objs.size f cdv)) (execs body (envOfC qual scope s.heap.objs.size f cdv))
        (fun fl s' => R (.ok (.ret (match fl with | .ret v => v | _ => .none))) s') (fun _ _ => False)
        { s with heap := h₁, toks := tk })
    (hco : scope.isCoroutine = false) (hgen : scope.isGenerator = false) (hk : scope.kind = .function) :
    codeAny (model PR w) A (.call (.ref f) args) R s := by
  refine codeAny_call_function (fd := fnOf name qual params body scope dV kV doc pm an cdv ct) hroom (X _ _ ho) rfl hco hgen rfl (codeRec_of X hcd) (hbind _ _ _ _ ?_)
  refine wpAny_newFunctionEnv_cells hk (kindsX hkind _) fun env' he s' x => ?_
  subst he
  refine ⟨T.nolimit.keeps x.toInCall.keep, codeAny_func ?_⟩
  obtain ⟨h₁, tk, rfl, hx⟩ := x.done
  have hk₁ := x.toInCall.keep
  obtain ⟨cells, NC, Y⟩ := Cl.news (h₀ := s.heap) (Nat.le_refl _) fun n c hm => ⟨x.cell n c (lookup_of_mem_nodup (cellsFrom_names scope.names 0 (s.heap.objs.size + 1) [] [] rfl ▸ hnd) hm), x.above n c hm⟩
  refine wpAny_mono (h h₁ tk cells ⟨x.toInCall.ns, fun b o e => hk₁ b o (hk0 b o e), hsz⟩ (fun p hp => ⟨(NC p hp).1, (NC p hp).2.1, ?_⟩) Y hk₁) (fun fl s' hl => hl) fun _ _ y => y.elim
  cases q : h₀.get? p.1 with
  | none => rfl
  | some o => have := hk0 _ _ q; rw [(NC p hp).2.2] at this; cases this
end
local macro_rules | `(tactic| walk_at "mineCell") => `(tactic| (
  refine' leafC (by assumption) (by assumption) ?k1 ?k2 ?k6 ?k7 ?k8 ?k9 ?kB ?kD ?_ ?c2 ?c3 ?c4
  case k6 => k_is
  case k7 => k_is
  case k8 => assumption
  case k9 => exact BindsTo.of_eq rfl
  case kB => exact rfl
  case kD => decide
  case c2 => exact rfl
  case c3 => exact rfl
  case c4 => exact rfl
  case k1 => assumption
  case k2 => assumption
  intro h₁ tk₁ cells F N Y hold))
section
/- the part Told1 -/
open PySem PySem.W PyProof.Rows PySem.Spec PySem.Calls PySem.W.X
set_option maxRecDepth 100000
set_option maxHeartbeats 1000000
set_option pp.deepTerms false
set_option pp.deepTerms.threshold 8
section
variable {w : World} {A : Around} {s : Shared} {E : Value → Shared → Prop}
abbrev riObj (x left step : Int) : Obj := { cls := .type "range_iterator", dict := none, data := .fields #[rawInt x, rawInt left, rawInt step], slots := #[] }
def tstep (r : Int) (l : List Int) : List Int := List.zipWith (fun h x => h + r * x) (l ++ [0]) (0 :: l)
def iter {α : Type} (f : α → α) : Nat → α → α
  | 0, x => x
  | n + 1, x => f (iter f n x)
def told0 (a c : Int) (n : Nat) : List Int := [c, a + c * ((n : Int) - 1)]
def toldAt (a c : Int) (ts : List Int) (j : Nat) : List Int := (List.range j).foldl (fun (l : List Int) (i : Nat) => iter (tstep ((ts.length : Int) - i)) (ts.getD i 0).toNat l) (told0 a c ts.length)
theorem toldAt_succ (a c : Int) (ts : List Int) (j : Nat) : toldAt a c ts (j + 1) = iter (tstep ((ts.length : Int) - j)) (ts.getD j 0).toNat (toldAt a c ts j) := by
  unfold toldAt; rw [List.range_succ, List.foldl_append]; rfl
theorem tstep_len (r : Int) (l : List Int) : (tstep r l).length = l.length + 1 := by unfold tstep; simp
theorem iter_len (r : Int) (l : List Int) : ∀ k, (iter (tstep r) k l).length = l.length + k
  | 0 => rfl
  | k + 1 => by rw [iter, tstep_len, iter_len r l k]; omega
theorem toldAt_len (a c : Int) (ts : List Int) (ht : ∀ j, 0 ≤ ts.getD j 0 ∧ ts.getD j 0 ≤ 2) : ∀ j, (toldAt a c ts j).length ≤ 2 + 2 * j
  | 0 => Nat.le_refl _
  | j + 1 => by
    rw [toldAt_succ, iter_len]
    have := toldAt_len a c ts ht j
    have := ht j
    omega
theorem zipApart_of {n l1 l2 : Nat} (h1 : l1 < n) (h2 : l2 < n) : ZipApart (n + 4) (n + 2) (n + 3) n (n + 1) l1 l2 := by
  constructor <;> (intro e; have e' : (_ : Nat) = (_ : Nat) := e; omega)
theorem intsAre_of : ∀ {ys : List Value} {ns : List Int}, ys.length = ns.length → (∀ j y, ys[j]? = some y → ∃ t, y = Value.int (ns.getD j 0) t) → IntsAre ys ns
  | [], [], _, _ => .nil
  | [], _ :: _, h, _ => by cases h
  | _ :: _, [], h, _ => by cases h
  | y :: ys, n :: ns, h, hp => by
    obtain ⟨t, rfl⟩ := hp 0 y rfl
    exact .cons n t (intsAre_of (Nat.succ.inj h) fun j y' e => hp (j + 1) y' e)
theorem intsAre_get : ∀ {ys : List Value} {ns : List Int}, IntsAre ys ns → ∀ {j : Nat} {y : Value}, ys[j]? = some y → ∃ t, y = Value.int (ns.getD j 0) t
  | _, _, .nil, j, y, e => by simp at e
  | _, _, .cons n t h, 0, y, e => by simp at e; exact ⟨t, e.symm⟩
  | _, _, .cons n t h, j + 1, y, e => by simpa using intsAre_get h (by simpa using e)
theorem intsAre_app : ∀ {ys zs : List Value} {ns ms : List Int}, IntsAre ys ns → IntsAre zs ms → IntsAre (ys ++ zs) (ns ++ ms)
  | _, _, _, _, .nil, h => h
  | _, _, _, _, .cons n t h, h' => .cons n t (intsAre_app h h')
theorem tstep_get (r : Int) (l : List Int) (j : Nat) (h : j < l.length + 1) : (tstep r l).getD j 0 = (l ++ [0]).getD j 0 + r * (([0] ++ l).getD j 0) := by
  unfold tstep
  have h1 : j < (l ++ [0]).length := by simp; omega
  have h2 : j < ([0] ++ l).length := by simp; omega
  have h3 : j < (List.zipWith (fun h x => h + r * x) (l ++ [0]) (0 :: l)).length := by simp; omega
  rw [List.getD_eq_getElem?_getD, List.getElem?_eq_getElem h3, List.getElem_zipWith, List.getD_eq_getElem?_getD, List.getElem?_eq_getElem h1, List.getD_eq_getElem?_getD, List.getElem?_eq_getElem h2]
  rfl
theorem len_known {l : Addr} {items : Array Value} {n : Nat} {Q : Value → Shared → Prop} (hl : s.heap.IsList l items) (hn : items.size = n) (hfit : n ≤ 1000000) (h : ∀ t' tk', Q (.int (n : Nat) t') { s with toks := tk' }) : wpAny (model PR w) A (call (.builtin "len") [.ref l]) Q E s := by
  subst hn
  exact call_len_list hl (by omega) (h _ _)
theorem told_call {a c : Int} {t u : Tok} {tl : Addr} {vs : List Value} {ts : List Int} {Q : Value → Shared → Prop} (G : Gnd w s.heap) (hroom : A.depth < recursionLimit) (hA : A.handled = none) (hl : s.heap.IsList tl vs.toArray) (hi : IntsAre vs ts) (hn : ts.length ≤ 4) (htr : ∀ j, 0 ≤ ts.getD j 0 ∧ ts.getD j 0 ≤ 2)
    (h : ∀ D ys, IntsAre ys (toldAt a c ts ts.length) → Kept s (fun h' => ∃ n, h'.get? D = some (listOf ys.toArray n)) (Q (.ref D))) : wpAny (model PR w) A (call (.ref 179) [.int a t, .int c u, .ref tl]) Q E s := by
  walk_at "mineFill"
  walk_at "mineGnd"
  refine wpAny_call ?_
  have hk0 : ∀ b o, s.heap.get? b = some o → s.heap.get? b = some o := fun b o e => e
  have hsz0 : s.heap.objs.size ≤ s.heap.objs.size := Nat.le_refl _
  walk_at "mineCell"
  rename_i h1 tk1 cells F N Y hold
  clear hk0 hsz0
  obtain ⟨oR, hE, dR⟩ := CellsAre.one Y
  subst hE
  clear Y
  dsimp only at *
  iterate 17 walk1
  have hln : vs.toArray.size = ts.length := by rw [List.size_toArray, hi.length]
  have hfit : ts.length ≤ 1000000 := by omega
  refine len_known (hl.at fun o e => Fr.keep ‹Fr _ _ _ _› _ _ e) hln hfit fun t' tk' => ?_
  dsimp only
  iterate 7 walk1
  refine wpAny_execs_cons ?_
  refine for_ruleQ ?_ (fun _ => rfl)
  iterate 10 walk1
  refine len_known (hl.at fun o e => Fr.keep ‹Fr _ _ _ _› _ _ e) hln hfit fun t' tk' => ?_
  dsimp only
  iterate 2 walk1
  have hr := ‹IsRange _ _ _ _ _ _ _ _›
  rename_i F1 N1 hk1
  refine wpAny_pyIter_range hr (small_one (by omega) (by omega) (by omega) (by omega)) ?_
  have hsz : Builtin.Range.rangeSize 0 (ts.length : Int) 1 = ts.length := by
    unfold Builtin.Range.rangeSize
    rw [if_pos (by decide)]
    split <;> omega
  rw [hsz]
  have F2 := F1.push (riObj 0 ts.length 1)
  have N2 := N1.push F1 (riObj 0 ts.length 1)
  have hDlt := Heap.lt_size (N1 _ (.head _)).1
  have hRlt := Heap.lt_size (N1 _ (.tail _ (.head _))).1
  dsimp only at hDlt hRlt
  rename_i tka l1 hcx lDR hc2 Fx Nx h2 tkr _ _ _ aIs
  dsimp only
  clear hr hk1 F1 N1 aIs
  revert F2 N2 hDlt hRlt
  generalize hIe : h2.objs.size = I
  generalize h2.push (riObj 0 ts.length 1) = h2p
  intro F2 N2 hDlt hRlt
  refine ⟨0, fun k s' => ∃ (j : Nat) (h' : Heap) (tk : Nat) (m : Str → Option Value) (D : Addr) (ys : List Value) (nD : Nat) (oR' : Obj) (v0 : Option Value), s' = { s with heap := h', toks := tk } ∧ j ≤ ts.length ∧ k = ts.length - j ∧
    Fr s.heap s.heap.objs.size h' m ∧ Knows m [("times", .ref tl), ("told", .ref D)] ∧ News s.heap s.heap.objs.size h' [(I, riObj j ((ts.length : Int) - j) 1), (D, listOf ys.toArray nD), (s.heap.objs.size + 1, oR')] ∧
    IntsAre ys (toldAt a c ts j) ∧ oR'.data = .cell v0 ∧ D ≠ I ∧ s.heap.objs.size + 1 ≠ I ∧ s.heap.objs.size + 1 ≠ D, ts.length, Nat.zero_le _, ?_, ?_⟩
  · exact ⟨0, _, _, _, l1, [.int c u, _], 0, oR, _, rfl, Nat.zero_le _, rfl, F2, ⟨rfl, rfl, trivial⟩, N2, .cons _ _ (.cons _ _ .nil), dR, Nat.ne_of_lt hDlt, Nat.ne_of_lt hRlt, Nat.ne_of_lt lDR⟩
  · clear F2 N2 hDlt hRlt Fx Nx
    rintro Qb k s' hQb htk ⟨j, h', tk, m, D, ys, nD, oR', v0, rfl, hj, rfl, F', hm, N', hys, hRd, hDI, hRI, hRD⟩
    by_cases hlt : j < ts.length
    · refine wpAny_pyNext_range_item (N' _ (.head _)).1 (by omega) fun h3 hit3 hs3 => ?_
      refine owned_name ?_
      obtain ⟨F3, N3⟩ := mut_frame (fun b o hb e => (hs3.2 b hb).trans e) hit3 F' N' (.head (by intro p hp; rcases List.mem_cons.mp hp with rfl | hp; exact hDI; rcases List.mem_cons.mp hp with rfl | hp; exact hRI; cases hp))
      replace F3 := hm.fr F3
      refine wpAny_assign_Name ?_
      clear F' N'
      walk1
      refine wpAny_execs_cons ?_
      iterate 8 walk1
      refine len_known (hl.at fun o e => Fr.keep ‹Fr _ _ _ _› _ _ e) hln hfit fun t' tk' => ?_
      dsimp only
      iterate 3 walk1
      rename_i F4 N4 hRd4
      refine wpAny_execs_cons ?_
      refine for_ruleQ ?_ (fun _ => rfl)
      iterate 10 walk1
      have hr := ‹IsRange _ _ _ _ _ _ _ _›
      rename_i o4 _ _ _ _ h5 tk5 _ _ _ aIs F5 N5 hk5
      rw [Int.toNat_natCast] at hr
      obtain ⟨hr0, hr2⟩ := htr j
      refine wpAny_pyIter_range hr (small_one (by omega) (by omega) (by omega) (by omega)) ?_
      obtain ⟨rq, hrq⟩ : ∃ rq : Nat, ts.getD j 0 = rq := ⟨(ts.getD j 0).toNat, by omega⟩
      have hsz5 : Builtin.Range.rangeSize 0 (ts.getD j 0) 1 = rq := by
        rw [hrq]
        unfold Builtin.Range.rangeSize
        rw [if_pos (by decide)]
        split <;> omega
      rw [hsz5]
      have F6 := F5.push (riObj 0 rq 1)
      have N6 := N5.push F5 (riObj 0 rq 1)
      have hIlt := Heap.lt_size (N5 _ (.head _)).1
      have hDlt := Heap.lt_size (N5 _ (.tail _ (.head _))).1
      have hRlt := Heap.lt_size (N5 _ (.tail _ (.tail _ (.head _)))).1
      dsimp only at hDlt hRlt hIlt ⊢
      clear hr hk5 F5 N5 aIs
      revert F6 N6 hDlt hRlt hIlt
      generalize hI2 : h5.objs.size = I2
      generalize h5.push (riObj 0 rq 1) = h6
      intro F6 N6 hIlt hDlt hRlt
      refine ⟨0, fun k s' => ∃ (q : Nat) (h' : Heap) (tk : Nat) (m : Str → Option Value) (D : Addr) (ys : List Value) (nD : Nat), s' = { s with heap := h', toks := tk } ∧ q ≤ rq ∧ k = rq - q ∧
        Fr s.heap s.heap.objs.size h' m ∧ Knows m [("times", .ref tl), ("told", .ref D)] ∧ News s.heap s.heap.objs.size h' [(I2, riObj q ((rq : Int) - q) 1), (I, riObj ((j : Int) + 1) ((ts.length : Int) - j - 1) 1), (D, listOf ys.toArray nD), (s.heap.objs.size + 1, o4)] ∧
        IntsAre ys (iter (tstep ((ts.length : Int) - j)) q (toldAt a c ts j)) ∧ D ≠ I2 ∧ D ≠ I ∧ s.heap.objs.size + 1 ≠ D, rq, Nat.zero_le _, ?_, ?_⟩
      · exact ⟨0, _, _, _, D, ys, nD, rfl, Nat.zero_le _, rfl, F6, ⟨rfl, rfl, trivial⟩, N6, ‹IntsAre ys _›, Nat.ne_of_lt hDlt, hDI, hRD⟩
      · clear F6 N6
        have hII2 : I ≠ I2 := Nat.ne_of_lt hIlt
        have hRI2 : s.heap.objs.size + 1 ≠ I2 := Nat.ne_of_lt hRlt
        clear hIlt hDlt hRlt hm hDI hRD
        rename_i FX NX _ _ _ _ _
        clear FX NX
        rintro Qc k s' hQc htk2 ⟨q, h', tk, m, D, ys, nD, rfl, hq, rfl, F', hm, N', hys, hDI2, hDI, hRD⟩
        by_cases hlt2 : q < rq
        · refine wpAny_pyNext_range_item (N' _ (.head _)).1 (by omega) fun h3 hit3 hs3 => ?_
          refine owned_name ?_
          obtain ⟨F3, N3⟩ := mut_frame (fun b o hb e => (hs3.2 b hb).trans e) hit3 F' N' (.head (by intro p hp; rcases List.mem_cons.mp hp with rfl | hp; exact hII2; rcases List.mem_cons.mp hp with rfl | hp; exact hDI2; rcases List.mem_cons.mp hp with rfl | hp; exact hRI2; cases hp))
          replace F3 := hm.fr F3
          refine wpAny_assign_Name ?_
          clear F' N'
          walk1
          refine wpAny_execs_cons ?_
          refine Assign_pairs (by rfl) (by rfl) (by decide) (by rfl) (by decide) (by rfl) (by rfl) (by decide) hA (by rfl) (by rfl) ?_
          iterate 11 walk1
          have Fa := ‹Fr _ _ _ _›
          have Na := ‹News _ _ _ _›
          have hyl : ys.length ≤ 100 := by
            have h1 := hys.length
            rw [iter_len] at h1
            have h2 := toldAt_len a c ts htr j
            omega
          refine add_arrays (its := ys.toArray) (its2 := #[.int 0 _]) Fa Na ⟨_, (Na _ (.tail _ (.tail _ (.tail _ (.head _))))).1, rfl, nD, rfl⟩ ⟨_, (Na _ (.head _)).1, rfl, 0, rfl⟩ (fun h7 F7 N7 => ?_) (by rw [List.size_toArray, sizeLine_eq]; show _ + 1 ≤ _; omega)
          rename_i lz _ _ lZ
          clear Fa Na
          dsimp only at F7 N7 ⊢
          revert F7 N7
          generalize lz.objs.size = P1
          intro F7 N7
          iterate 8 walk1
          rename_i l0b h8 Fb Nb lb
          refine add_arrays (its := #[.int 0 _]) (its2 := ys.toArray) Fb Nb ⟨_, (Nb _ (.head _)).1, rfl, 0, rfl⟩ ⟨_, (Nb (D, listOf ys.toArray nD) (by k_mem)).1, rfl, nD, rfl⟩ (fun h9 F9 N9 => ?_) (by simp only [List.size_toArray, List.length_cons, List.length_nil, sizeLine_eq]; omega)
          clear Fb Nb
          dsimp only at F9 N9 ⊢
          revert F9 N9
          generalize h8.objs.size = P2
          intro F9 N9
          iterate 1 walk1
          refine call_zip_2 (xs := (ys ++ [Value.int 0 _]).toArray) (ys := ([Value.int 0 _] ++ ys).toArray) ⟨_, (N9 (P1, _) (by k_mem)).1, rfl, 0, rfl⟩ ⟨_, (N9 _ (.head _)).1, rfl, 0, rfl⟩ fun h10 hz hTI hTO hi1 hi2 hsz10 hk10 => ?_
          obtain ⟨t1, hP1⟩ : ∃ t1, h9.get? P1 = some { cls := .type "list", data := .seq (ys ++ [Value.int 0 t1]).toArray } := ⟨_, (N9 (P1, _) (by k_mem)).1⟩
          obtain ⟨t2, hP2⟩ : ∃ t2, h9.get? P2 = some { cls := .type "list", data := .seq ([Value.int 0 t2] ++ ys).toArray } := ⟨_, (N9 (P2, _) (.head _)).1⟩
          have hap := zipApart_of (Heap.lt_size hP1) (Heap.lt_size hP2)
          refine (WalksT.zip2 (prog := PR) (w := w) (A := A.deeper (envOfC _ _ s.heap.objs.size 179 _)) hA _ _ _ _ _ _ _ hap (ys ++ [Value.int 0 t1]).toArray ([Value.int 0 t2] ++ ys).toArray).self 0 _ _ _ ⟨hz, hTI, ⟨_, _, hTO⟩, hi1, hi2, ⟨_, hk10 _ _ hP1, rfl, 0, rfl⟩, ⟨_, hk10 _ _ hP2, rfl, 0, rfl⟩⟩ ?_
          have hLlt : s.heap.objs.size < h9.objs.size := F9.ns.lt
          have hl1 : ∀ tt, IntsAre (ys ++ [Value.int 0 tt]) (iter (tstep ((ts.length : Int) - j)) q (toldAt a c ts j) ++ [0]) := fun tt => intsAre_app hys (.cons 0 tt .nil)
          have hl2 : ∀ tt, IntsAre ([Value.int 0 tt] ++ ys) ([0] ++ iter (tstep ((ts.length : Int) - j)) q (toldAt a c ts j)) := fun tt => intsAre_app (.cons 0 tt .nil) hys
          refine' ⟨_, _, _, _, _, _, _, fun j' y => ∃ t, y = Value.int ((tstep ((ts.length : Int) - j) (iter (tstep ((ts.length : Int) - j)) q (toldAt a c ts j))).getD j' 0) t, _, rfl,
            ⟨?walk, ?two, ?few, ?start, ?low, ?elt⟩, ?hLw, F9.ns.keeps hk10, ?fin⟩
          case walk =>
            refine WalksT.toU (WalksT.zip2 ?_ _ _ _ _ _ _ _ hap (ys ++ [Value.int 0 t1]).toArray ([Value.int 0 t2] ++ ys).toArray)
            exact hA
          case two => exact fun i vals ⟨x, y, _, _, e⟩ => ⟨x, y, e⟩
          case start => exact ⟨hz, hTI, ⟨_, _, hTO⟩, hi1, hi2, ⟨_, hk10 _ _ hP1, rfl, 0, rfl⟩, ⟨_, hk10 _ _ hP2, rfl, 0, rfl⟩⟩
          case few => simp only [List.size_toArray, List.length_append, List.length_cons, List.length_nil]; omega
          case low =>
            dsimp only at *
            have b1 : P1 < h9.objs.size := Heap.lt_size hP1
            have b2 : P2 < h9.objs.size := Heap.lt_size hP2
            intro b hb
            rw [hsz10]
            simp only [List.mem_cons, List.not_mem_nil, or_false] at hb
            rcases hb with rfl | rfl | rfl | rfl | rfl | rfl | rfl
            all_goals first | exact Nat.lt_of_lt_of_le b1 (Nat.le_add_right _ _) | exact Nat.lt_of_lt_of_le b2 (Nat.le_add_right _ _) | (apply Nat.add_lt_add_left; decide) | (exact Nat.lt_add_of_pos_right (by decide))
          case hLw =>
            show s.heap.objs.size ∉ _
            intro hm
            simp only [List.mem_cons, List.not_mem_nil, or_false] at hm
            have e : s.heap.objs.size < h9.objs.size := hLlt
            rcases hm with hm | hm | hm | hm <;> (have hm' : (s.heap.objs.size : Nat) = _ := hm; omega)
          case fin =>
            intro D' h' tk' ys' hD' hpl hsy hF' hns hk'
            dsimp only at *
            have hnw : ∀ b, b < h9.objs.size → b ∉ [h9.objs.size + 4, h9.objs.size + 3, h9.objs.size, h9.objs.size + 1] := by
              intro b hb hm
              simp only [List.mem_cons, List.not_mem_nil, or_false] at hm
              rcases hm with hm | hm | hm | hm <;> (have hm' : (b : Nat) = _ := hm; omega)
            have hkk : ∀ b o, b ≠ s.heap.objs.size → h9.get? b = some o → h'.get? b = some o := fun b o hb e => hk' b o hb (hnw b (Heap.lt_size e)) (hk10 b o e)
            have F' : Fr s.heap s.heap.objs.size h' _ := ⟨hns, fun b o e => hkk b o (Nat.ne_of_lt (Heap.lt_size e)) (F9.keep b o e), F9.above⟩
            obtain ⟨n', hpl⟩ := hpl
            have hDn : ∀ b, b < h9.objs.size → b ≠ D' := fun b hb e => by have e' : (b : Nat) = D' := e; omega
            have mI2 := N9 (I2, _) (by k_mem)
            have mI := N9 (I, _) (by k_mem)
            have mR := N9 (s.heap.objs.size + 1, _) (by k_mem)
            have hDL : D' ≠ s.heap.objs.size := fun e => by have e' : (D' : Nat) = s.heap.objs.size := e; omega
            have hD0 : s.heap.get? D' = none := Heap.get?_none_of_le (by omega)
            have N' : News s.heap s.heap.objs.size h' [(I2, riObj ((q : Int) + 1) ((rq : Int) - q - 1) 1), (I, riObj ((j : Int) + 1) ((ts.length : Int) - j - 1) 1), (D', listOf ys' n'), (s.heap.objs.size + 1, o4)] := by
              intro p hp
              rcases List.mem_cons.mp hp with rfl | hp
              · exact ⟨hkk _ _ mI2.2.1 mI2.1, mI2.2⟩
              · rcases List.mem_cons.mp hp with rfl | hp
                · exact ⟨hkk _ _ mI.2.1 mI.1, mI.2⟩
                · rcases List.mem_cons.mp hp with rfl | hp
                  · exact ⟨hpl, hDL, hD0⟩
                  · rcases List.mem_cons.mp hp with rfl | hp
                    · exact ⟨hkk _ _ mR.2.1 mR.1, mR.2⟩
                    · cases hp
            refine wpAny_execs_nil ?_
            try dsimp only
            have hlen' : ys'.toList.length = (tstep ((ts.length : Int) - j) (iter (tstep ((ts.length : Int) - j)) q (toldAt a c ts j))).length := by
              rw [tstep_len, Array.length_toList, hsy, ← hys.length]
              simp only [List.size_toArray, List.length_append, List.length_cons, List.length_nil]
              omega
            have hints := intsAre_of hlen' (fun j' y e => hF' j' y (by rw [← Array.getElem?_toList]; exact e))
            have er : ((rq : Int) - q - 1) = (rq : Int) - ((q + 1 : Nat) : Int) := by omega
            have eq1 : ((q : Int) + 1) = ((q + 1 : Nat) : Int) := by omega
            rw [er, eq1] at N'
            exact hQc _ ⟨_, Nat.sub_lt_sub_left hlt2 (Nat.lt_succ_self q), q + 1, h', tk', _, D', ys'.toList, n', rfl, hlt2, rfl, F', ⟨rfl, rfl, trivial⟩, N', hints, Ne.symm (hDn _ (Heap.lt_size mI2.1)), Ne.symm (hDn _ (Heap.lt_size mI.1)), hDn _ (Heap.lt_size mR.1)⟩
          case elt =>
            intro C E' i va vb t m₂ hi' hC hP hnC hma hmb hkt
            obtain ⟨x, y, hx, hy, e⟩ := hP
            obtain ⟨rfl, rfl⟩ : va = x ∧ vb = y := by simpa using e
            obtain ⟨ta, rfl⟩ := intsAre_get (hl1 t1) (by simpa using hx)
            obtain ⟨tb, rfl⟩ := intsAre_get (hl2 t2) (by simpa using hy)
            have mR := N9 (s.heap.objs.size + 1, _) (by k_mem)
            have hRw : s.heap.objs.size + 1 ∉ [h9.objs.size + 4, h9.objs.size + 3, h9.objs.size, h9.objs.size + 1] := by
              intro hm
              have hb : s.heap.objs.size + 1 < h9.objs.size := Heap.lt_size mR.1
              simp only [List.mem_cons, List.not_mem_nil, or_false] at hm
              rcases hm with hm | hm | hm | hm <;> omega
            obtain ⟨tr, hcR⟩ : ∃ tr, t.heap.IsCell (s.heap.objs.size + 1) (some (.int ((ts.length : Int) - j) tr)) := ⟨_, o4, hkt _ _ hRw (hk10 _ _ mR.1), hRd4⟩
            obtain ⟨ht, gt, dt, tt, ot⟩ := t
            iterate 1 walk1
            refine wpAny_Name (wpAny_loadName_local (by rfl) (by rfl) hnC hma ?_) (by decide)
            iterate 1 walk1
            refine wpAny_Name (wpAny_loadName_cell (by rfl) (by rfl) (by rfl) hcR ?_) (by decide)
            refine wpAny_Name (wpAny_loadName_local (by rfl) (by rfl) hnC hmb ?_) (by decide)
            iterate 2 walk1
            have hi2 : i < (iter (tstep ((ts.length : Int) - j)) q (toldAt a c ts j)).length + 1 := by
              have h1 := hys.length
              simp only [List.size_toArray, List.length_append, List.length_cons, List.length_nil] at hi'
              omega
            refine ⟨?_, _, _, rfl, fun _ _ e => e⟩
            rw [tstep_get _ _ _ hi2]
            exact ⟨_, rfl⟩
        · have hqe : q = rq := by omega
          subst hqe
          refine wpAny_pyNext_range_end hA (N' _ (.head _)).1 (by omega) fun h3 hx => ?_
          obtain ⟨F3, N3⟩ := ext_frame hx (by intro p hp; rcases List.mem_cons.mp hp with rfl | hp; exact hII2; rcases List.mem_cons.mp hp with rfl | hp; exact hDI2; rcases List.mem_cons.mp hp with rfl | hp; exact hRI2; cases hp) F' N'
          replace F3 := hm.fr F3
          clear F' N'
          unfold Over
          dsimp only
          refine wpAny_execs_nil ?_
          try dsimp only
          have eq1 : ((j : Int) + 1) = ((j + 1 : Nat) : Int) := by omega
          have er : ((ts.length : Int) - j - 1) = (ts.length : Int) - ((j + 1 : Nat) : Int) := by omega
          rw [eq1, er] at N3
          have hta : IntsAre ys (toldAt a c ts (j + 1)) := by
            rw [toldAt_succ, hrq, Int.toNat_natCast]; exact hys
          exact hQb _ ⟨_, Nat.sub_lt_sub_left hlt (Nat.lt_succ_self j), j + 1, h3, _, _, D, ys, nD, o4, _, rfl, hlt, rfl, F3, ⟨rfl, rfl, trivial⟩, N3, hta, hRd4, hDI, hRI, hRD⟩
    · have hje : j = ts.length := by omega
      subst hje
      refine wpAny_pyNext_range_end hA (N' _ (.head _)).1 (by omega) fun h3 hx => ?_
      obtain ⟨F3, N3⟩ := ext_frame hx (by intro p hp; rcases List.mem_cons.mp hp with rfl | hp; exact hDI; rcases List.mem_cons.mp hp with rfl | hp; exact hRI; cases hp) F' N'
      replace F3 := hm.fr F3
      clear F' N'
      unfold Over
      dsimp only
      iterate 3 walk1
      dsimp only
      exact h D ys hys _ _ F3.keep ⟨nD, (N3 _ (.head _)).1⟩
end
end
section
/- the part Law1 -/
open PySem PySem.W PyProof.Rows PySem.Spec PySem.Calls PySem.W.X
set_option maxRecDepth 100000
set_option maxHeartbeats 1000000
set_option pp.deepTerms false
set_option pp.deepTerms.threshold 8

def stmtsOf : Option Obj → List Stmt
  | some ⟨_, _, .func fd, _⟩ => match fd.body with | .stmts l => l | _ => []
  | _ => []
def scopeOf : Option Obj → Scope
  | some ⟨_, _, .func fd, _⟩ => fd.scope
  | _ => default
/-- the law's rows, and its names, out of the written part -/
noncomputable def lawStmts : { l : List Stmt // ∀ P, stmtsOf ((hk.heap_1 P).lookup 184) = l } := ⟨[_, _, _, _, _, _, _, _, _, _, _, _, _, _], fun _ => rfl⟩
noncomputable def lawScope : { l : Scope // ∀ P, scopeOf ((hk.heap_1 P).lookup 184) = l } := ⟨{ kind := _, names := _, isGenerator := _, isCoroutine := _, more := _ }, fun _ => rfl⟩
noncomputable abbrev lawEnv (L : Addr) : Env := envOfC "law" lawScope.1 L 184 (.ref 183)
section
variable {w : World} {A : Around} {s : Shared} {E : Value → Shared → Prop} {h₀ : Heap} {L : Addr} {m : Str → Option Value}
theorem sum_known {l : Addr} {vs : List Value} {ns : List Int} {Q : Value → Shared → Prop} (hA : A.handled = none) (hl : s.heap.IsList l vs.toArray) (hi : IntsAre vs ns) (h : ∀ t', Kept s Yes (Q (.int ns.sum t'))) : wpAny (model PR w) A (call (.builtin "sum") [.ref l]) Q E s := by
  have hlt : l < s.heap.objs.size := by obtain ⟨_, e, _⟩ := hl; exact Heap.lt_size e
  refine call_sum_walkG (wpAny_pyIter_list hl ⟨_, _, _, _, _, _, fun j => ns.getD j 0, rfl, Walks.list (A := A.in1) hA _ l (Nat.ne_of_lt hlt) vs.toArray, ⟨⟨_, Heap.get?_push_size _ rfl, rfl, rfl⟩, hl.push _⟩, ?_, ?_, fun h' tk t' hk => ?_⟩)
  · intro b hb
    show b < (s.heap.push _).objs.size
    rw [Heap.size_push]
    rcases List.mem_cons.mp hb with rfl | hb
    · exact Nat.lt_succ_self _
    · rw [List.mem_singleton.mp hb]; exact Nat.lt_succ_of_lt hlt
  · intro i v hv
    exact intsAre_get hi (by simpa using hv)
  · have e : preSum (fun j => ns.getD j 0) vs.toArray.size = ns.sum := by
      rw [preSum_getD, List.size_toArray, hi.length, List.take_length]
    rw [e]
    exact h t' h' tk (fun b o q => hk b o (by simpa using Nat.ne_of_lt (Heap.lt_size q)) (Heap.get?_push_of_some _ q)) trivial
theorem Walks_bound {I : Addr} {fp wr : List Addr} {n : Nat} {P : Nat → Value → Prop} {St : Nat → Heap → Prop} (W : Walks PR w A I fp wr n P St) : Walks PR w A I fp wr n (fun i v => i < n ∧ P i v) St where
  sub := W.sub
  frame := W.frame
  item := fun i s Q E hi st hQ => W.item i s Q E hi st fun v h' tk hP => hQ v h' tk ⟨hi, hP⟩
  done := W.done
  self := W.self
theorem ints_paired : ∀ {xs ys : List Value}, Paired (fun _ y => ∃ i t, y = Value.int i t) xs ys → ∃ ds, IntsAre ys ds ∧ ds.length = xs.length
  | _, _, .nil => ⟨[], .nil, rfl⟩
  | _, _, .cons ⟨i, t, e⟩ r => by
    obtain ⟨ds, h1, h2⟩ := ints_paired r
    subst e
    exact ⟨i :: ds, .cons i t h1, by simp [h2]⟩
theorem fr_ne {h : Heap} {b : Addr} {o : Obj} (F : Fr h₀ L h m) (e : h₀.get? b = some o) : b ≠ L := by
  rintro rfl
  exact absurd (Heap.lt_size e) (Nat.not_lt.mpr F.above)
theorem comp_frame {h h' : Heap} {I D : Addr} {m' : Str → Option Value} {o od : Obj} {news : List (Addr × Obj)} (hD0 : h.get? D = none) (hDp : h'.get? D = some od) (hns : h'.Ns L m')
    (hk : ∀ b o, b ≠ L → b ∉ [I] → h.get? b = some o → h'.get? b = some o) (F : Fr h₀ L h m) (N : News h₀ L h ((I, o) :: news)) (hn : ∀ p ∈ news, p.1 ≠ I) :
    Fr h₀ L h' m' ∧ News h₀ L h' ((D, od) :: news) ∧ (∀ p ∈ news, D ≠ p.1) := by
  have hI := N _ (.head _)
  have hDL : D ≠ L := by rintro rfl; obtain ⟨o, _, _, ho, _⟩ := F.ns; rw [hD0] at ho; cases ho
  refine ⟨⟨hns, fun b x e => hk b x (fr_ne F e) ?_ (F.keep b x e), F.above⟩, fun p hp => ?_, fun p hp q => ?_⟩
  · rw [List.mem_singleton]; rintro rfl; rw [hI.2.2] at e; cases e
  · rcases List.mem_cons.mp hp with rfl | hp
    · refine ⟨hDp, hDL, ?_⟩
      cases q : h₀.get? D with
      | none => rfl
      | some o => have := F.keep _ _ q; rw [hD0] at this; cases this
    · have P := N p (.tail _ hp)
      exact ⟨hk _ _ P.2.1 (by rw [List.mem_singleton]; exact hn p hp) P.1, P.2⟩
  · have P := N p (.tail _ hp)
    rw [← q, hD0] at P; cases P.1
theorem comp_list {env : Env} {elt : Expr} {x : Str} {scope : Scope} {Q : Value → Shared → Prop} {l : Addr} {vs : List Value} {news : List (Addr × Obj)} (G : Value → Value → Prop)
    (hh : A.handled = none) (hl : s.heap.IsList l vs.toArray) (F : Fr h₀ L s.heap m) (N : News h₀ L s.heap news)
    (g2 : ∀ C v t m₂ E', v ∈ vs → (∀ b o, s.heap.get? b = some o → t.heap.get? b = some o) → t.heap.Ns C m₂ → m₂ x = some v → wpAny (model PR w) A (eval elt (compEnv scope C env)) (fun r s₃ => G v r ∧ Keeps t s₃) E' t)
    (g3 : ∀ D ys n h' tk, Fr h₀ L h' m → News h₀ L h' ((D, listOf ys.toArray n) :: news) → (∀ p ∈ news, D ≠ p.1) → Paired G vs ys → Q (.ref D) { s with heap := h', toks := tk })
    (hsz : vs.length ≤ sizeLine := by size_fits) :
    wpAny (model PR w) A (pyIter (.ref l)) (CompPost PR w A env scope x [] elt Q) E s := by
  have hlt : l < s.heap.objs.size := by obtain ⟨_, e, _⟩ := hl; exact Heap.lt_size e
  refine wpAny_pyIter_list hl ?_
  have up : ∀ (h' : Heap), (∀ b o', b ∉ [s.heap.objs.size] → (s.heap.push { cls := .type "list_iterator", data := .fields #[.ref l, .int 0 0] }).get? b = some o' → h'.get? b = some o') → ∀ b o', s.heap.get? b = some o' → h'.get? b = some o' :=
    fun h' hk b o' e => hk b o' (not_iter_of_old e) (Heap.get?_push_of_some _ e)
  refine ⟨fun _ => true, G, s.heap.objs.size, [s.heap.objs.size, l], [s.heap.objs.size], vs.toArray.size, _, _, rfl, Walks.list hh _ l (Nat.ne_of_lt hlt) vs.toArray, (by rw [List.size_toArray]; exact hsz),
    ⟨⟨_, Heap.get?_push_size _ rfl, rfl, rfl⟩, hl.at fun o e => Heap.get?_push_of_some _ e⟩, ?_, ⟨?_, ?_⟩, ?_⟩
  · intro b hb
    show b < (s.heap.push _).objs.size
    rw [Heap.size_push]
    rcases List.mem_cons.mp hb with rfl | hb
    · exact Nat.lt_succ_self _
    · rw [List.mem_singleton.mp hb]; exact Nat.lt_succ_of_lt hlt
  · intro C i v s₃ m₃ E' hP hn hm hk htk
    exact wpAny_pure ⟨rfl, _, _, rfl, fun _ _ e => e⟩
  · intro C i v s₃ m₃ E' hP hp hn hm hk htk
    exact g2 C v s₃ m₃ E' (List.mem_of_getElem? (by simpa using hP)) (fun b o e => hk b o (not_iter_of_old e) (Heap.get?_push_of_some _ e)) hn hm
  · intro D h' tk ys vs' hnew hlD hplD hlen hP hF hk
    have e' : vs' = vs := by simpa using walked_is hlen hP
    subst e'
    rw [List.filter_eq_self.mpr (fun _ _ => rfl)] at hF
    obtain ⟨n, hplD⟩ := hplD
    have hDn : ∀ p ∈ news, D ≠ p.1 := fun p hp e => by rw [e, Heap.get?_push_of_some _ (N p hp).1] at hnew; cases hnew
    refine g3 D ys.toList n h' tk (F.keeps (up h' hk)) (fun p hp => ?_) hDn hF
    rcases List.mem_cons.mp hp with rfl | hp
    · refine ⟨by rw [Array.toArray_toList]; exact hplD, ?_, ?_⟩
      · rintro rfl; obtain ⟨o, _, _, ho, _⟩ := F.ns; rw [Heap.get?_push_of_some _ ho] at hnew; cases hnew
      · cases e : h₀.get? D with
        | none => rfl
        | some o' => rw [Heap.get?_push_of_some _ (F.keep _ _ e)] at hnew; cases hnew
    · exact N.grown (up h' hk) p hp
theorem ints_map {f : Int → Int} : ∀ {xs ys : List Value} {ns : List Int}, IntsAre xs ns → Paired (fun v y => ∀ i t, v = Value.int i t → ∃ t', y = Value.int (f i) t') xs ys → IntsAre ys (ns.map f)
  | _, _, _, .nil, .nil => .nil
  | _, _, _, .cons n t h, .cons hy hr => by
    obtain ⟨t', rfl⟩ := hy n t rfl
    exact .cons _ _ (ints_map h hr)
theorem pn {n : List (Addr × Obj)} : ∀ p ∈ ([] : List (Addr × Obj)), p ∈ n := fun _ h => nomatch h
theorem pc {n l : List (Addr × Obj)} {x : Addr × Obj} (h : x ∈ n) (r : ∀ p ∈ l, p ∈ n) : ∀ p ∈ x :: l, p ∈ n := fun p hp => by
  rcases List.mem_cons.mp hp with rfl | hp
  · exact h
  · exact r p hp
theorem nn {a : Addr} : ∀ p ∈ ([] : List (Addr × Obj)), p.1 ≠ a := fun _ h => nomatch h
theorem nc {a : Addr} {l : List (Addr × Obj)} {x : Addr × Obj} (h : x.1 ≠ a) (r : ∀ p ∈ l, p.1 ≠ a) : ∀ p ∈ x :: l, p.1 ≠ a := fun p hp => by
  rcases List.mem_cons.mp hp with rfl | hp
  · exact h
  · exact r p hp
theorem News_pick {h : Heap} {n l : List (Addr × Obj)} (N : News h₀ L h n) (r : ∀ p ∈ l, p ∈ n) : News h₀ L h l := fun p hp => N p (r p hp)
theorem half_bound (x : Int) : ((x + 5 * 10 ^ 39).fmod (2 * (5 * 10 ^ 39)) - 5 * 10 ^ 39).natAbs ≤ 5 * 10 ^ 39 := by
  obtain ⟨H, hH⟩ : ∃ H : Nat, H = 5 * 10 ^ 39 := ⟨_, rfl⟩
  have hi : (5 * 10 ^ 39 : Int) = (H : Int) := by rw [hH]; decide +kernel
  rw [hi, ← hH]
  have h0 : 0 < H := by rw [hH]; decide +kernel
  clear hH hi
  rw [Int.fmod_eq_emod_of_nonneg _ (by omega)]
  have h1 := Int.emod_nonneg (x + H) (b := 2 * (H : Int)) (by omega)
  have h2 := Int.emod_lt_of_pos (x + H) (b := 2 * (H : Int)) (by omega)
  omega
theorem law_a {Q : Flow → Shared → Prop} {l : Addr} {vs : List Value} {ns : List Int} {o1 o2 : Obj} (G : Gnd w h₀) (hA : A.handled = none) (F : Fr h₀ L s.heap m) (N : News h₀ L s.heap [(L + 1, o1), (L + 2, o2)]) (h1 : o1.data = .cell (some (.ref l))) (h2 : o2.data = .cell none) (hl : h₀.IsList l vs.toArray) (hi : IntsAre vs ns) (hn : ns.length ≤ 63)
    (hfin : ∀ D T ys tys nD nT o2' ds (a c : Int) ta tc h' tk' m', o2'.data = .cell (some (.ref T)) → IntsAre ys ds → ds.length = 6 → IntsAre tys ((ds.drop 2).map fun x => x.fmod 3) →
      Fr h₀ L h' m' → News h₀ L h' [(L + 2, o2'), (D, listOf ys.toArray nD), (T, listOf tys.toArray nT), (L + 1, o1)] → Knows m' [("drawn", .ref D), ("a", .int a ta), ("c", .int c tc)] →
      D ≠ T → D ≠ L + 1 → D ≠ L + 2 → T ≠ L + 1 → T ≠ L + 2 → a.natAbs ≤ 5 * 10 ^ 39 → c.natAbs ≤ 5 * 10 ^ 39 → wpAny (model PR w) A (execs (lawStmts.1.drop 5) (lawEnv L)) Q Never { s with heap := h', toks := tk' }) :
    wpAny (model PR w) A (execs lawStmts.1 (lawEnv L)) Q Never s := by
  walk_at "mineFill"
  have X := G.X
  obtain ⟨p, loose, mean, mg, mb, T⟩ := G.T
  unfold lawEnv lawStmts lawScope
  dsimp only
  refine wpAny_execs_cons ?_
  refine wpAny_Assign_ListComp_free (fun _ => true) (fun _ y => ∃ i t, y = Value.int i t) (by rfl) (by rfl) (by decide) (by rfl) (by decide) (by rfl) (by rfl) (by rfl) ?_
  iterate 7 walk1
  have hr := ‹IsRange _ _ _ _ _ _ _ _›
  rename_i h1r tkr _ _ _ aIs F1 N1 hk1
  refine wpAny_pyIter_range hr (small_one (by omega) (by omega) (by omega) (by omega)) ?_
  have hsz : Builtin.Range.rangeSize 0 6 1 = ((6 : Nat) : Int) := by decide
  rw [hsz]
  have F2 := F1.push (riObj 0 ((6 : Nat) : Int) 1)
  have N2 := N1.push F1 (riObj 0 ((6 : Nat) : Int) 1)
  dsimp only
  have hri : IsRangeIter (h1r.push (riObj 0 ((6 : Nat) : Int) 1)) h1r.objs.size (0 + ((0 : Nat) : Int) * 1) (((6 : Nat) : Int) - ((0 : Nat) : Int)) 1 := (N2 _ (.head _)).1
  refine' ⟨h1r.objs.size, [h1r.objs.size], [h1r.objs.size], 6, _, _, _, rfl, Walks_bound (Walks.range ?_ h1r.objs.size 0 1 6), ?few, hri, ?low, ?hLw, F2.ns, ?quiet, ?fin⟩
  case few => rw [sizeLine_eq]; decide
  case low => intro b hb; rw [List.mem_singleton.mp hb]; show _ < (h1r.push _).objs.size; rw [Heap.size_push]; exact Nat.lt_succ_self _
  case hLw => intro hm; exact absurd (List.mem_singleton.mp hm) (Nat.ne_of_lt F1.ns.lt)
  case quiet =>
    refine ⟨fun C i v s₃ m₃ E' hC hP hn3 hm3 hk3 htk3 => ?_, fun C i v s₃ m₃ E' hC hP _ hn3 hm3 hk3 htk3 => ?_⟩
    · show wpAny _ _ (pure true) _ _ _
      exact wpAny_pure ⟨rfl, _, _, rfl, fun _ _ e => e⟩
    · obtain ⟨hi6, tk3, rfl⟩ := hP
      obtain ⟨hh, gg, dd, tt, oo⟩ := s₃
      iterate 4 walk1
      iterate 12 walk1
      refine wpAny_newObj_type ?_
      have kp : ∀ b o, hh.get? b = some o → (hh.push { cls := .type "list", data := .seq [Value.int 2 tt, .int 3 (tt + 1), .int 4 (tt + 1 + 1), .int 7 (tt + 1 + 1 + 1), .int 0 (tt + 1 + 1 + 1 + 1), .int 4 (tt + 1 + 1 + 1 + 1 + 1)].toArray }).get? b = some o := fun b o e => Heap.get?_push_of_some _ e
      have hP : (hh.push { cls := .type "list", data := .seq [Value.int 2 tt, .int 3 (tt + 1), .int 4 (tt + 1 + 1), .int 7 (tt + 1 + 1 + 1), .int 0 (tt + 1 + 1 + 1 + 1), .int 4 (tt + 1 + 1 + 1 + 1 + 1)].toArray }).IsList hh.objs.size [Value.int 2 tt, .int 3 (tt + 1), .int 4 (tt + 1 + 1), .int 7 (tt + 1 + 1 + 1), .int 0 (tt + 1 + 1 + 1 + 1), .int 4 (tt + 1 + 1 + 1 + 1 + 1)].toArray := ⟨_, Heap.get?_push_size _ rfl, rfl, 0, rfl⟩
      have hPi : IntsAre [Value.int 2 tt, .int 3 (tt + 1), .int 4 (tt + 1 + 1), .int 7 (tt + 1 + 1 + 1), .int 0 (tt + 1 + 1 + 1 + 1), .int 4 (tt + 1 + 1 + 1 + 1 + 1)] [2, 3, 4, 7, 0, 4] := .cons _ _ (.cons _ _ (.cons _ _ (.cons _ _ (.cons _ _ (.cons _ _ .nil)))))
      dsimp only
      revert kp hP hPi
      generalize hh.push _ = H1
      generalize [Value.int 2 tt, .int 3 (tt + 1), .int 4 (tt + 1 + 1), .int 7 (tt + 1 + 1 + 1), .int 0 (tt + 1 + 1 + 1 + 1), .int 4 (tt + 1 + 1 + 1 + 1 + 1)] = W1
      intro kp hP hPi
      have hn4 := hn3.at' (h' := H1) fun o e => kp _ o e
      refine wpAny_Name (wpAny_loadName_local (by rfl) (by rfl) hn4 hm3 ?_) (by decide)
      refine item_list_intsT hP hPi (by omega) (by show _ < 6; omega) (by omega) fun tv => ?_
      have hb0 : ∀ b o, h₀.get? b = some o → hh.get? b = some o := fun b o e => hk3 b o (by simpa using Nat.ne_of_lt (Heap.lt_size (F1.keep b o e))) (F2.keep b o e)
      have T4 := T.keeps fun b o e => kp b o (hb0 b o e)
      have hgs : mg "sum" = none := ns_none_of X T.g (by kernel_rfl)
      have hbs : mb "sum" = some (.builtin "sum") := (T.builtins _ (by decide)).trans boot_sum
      iterate 1 walk1
      refine Name_function_global rfl rfl (loadGlobal_builtin T4.g hgs T4.b hbs ?_) (by decide)
      iterate 3 walk1
      have hcell : ∃ o, H1.get? (L + 1) = some o ∧ o.data = .cell (some (.ref l)) := ⟨o1, kp _ _ (hk3 _ _ (by simpa using Nat.ne_of_lt (Heap.lt_size (N1 _ (.head _)).1)) (N2 (L + 1, o1) (by k_mem)).1), h1⟩
      refine wpAny_Name (wpAny_loadName_cell (by rfl) (by rfl) (by rfl) hcell ?_) (by decide)
      iterate 1 walk1
      refine wpAny_Name (wpAny_loadName_local (by rfl) (by rfl) hn4 hm3 ?_) (by decide)
      iterate 3 walk1
      have hia := ‹IntsAre vs ns›
      have hvl : vs.toArray.size ≤ sizeLine := by rw [List.size_toArray, hia.length, sizeLine_eq]; omega
      have hl4 : H1.IsList l vs.toArray := hl.at fun o e => kp _ o (hb0 _ o e)
      refine subscriptTail_ops (T := "list") (ops := _) (Heap.IsList.typeIs (s := { heap := H1.push _, gens := gg, drawn := dd, toks := _, os := oo }) (hl4.push _)) list_getitem_lookup
        (wpAny_getItem_list_slice (hl4.push _) (Heap.IsSliceOf.new ..) (.int _ _) .none (.int _ _) (by decide) ?_ hvl) (by with_unfolding_all rfl) (by intro _; with_unfolding_all rfl)
      iterate 1 walk1
      have hpk := hia.pick (some (0 + (i : Int) * 1)) none (some 6)
      dsimp only
      have k2 : ∀ b o, H1.get? b = some o → ((H1.push { cls := .type "slice", data := .fields #[Value.int (0 + (i : Int) * 1) tk3, .none, .int 6 (tt + 1 + 1 + 1 + 1 + 1 + 1)] }).push { cls := .type "list", data := .seq (slicePick vs.toArray (some (0 + (i : Int) * 1)) none (some 6)) }).get? b = some o := fun b o e => Heap.get?_push_of_some _ (Heap.get?_push_of_some _ e)
      have hl5 : ((H1.push { cls := .type "slice", data := .fields #[Value.int (0 + (i : Int) * 1) tk3, .none, .int 6 (tt + 1 + 1 + 1 + 1 + 1 + 1)] }).push { cls := .type "list", data := .seq (slicePick vs.toArray (some (0 + (i : Int) * 1)) none (some 6)) }).IsList (H1.push { cls := .type "slice", data := .fields #[Value.int (0 + (i : Int) * 1) tk3, .none, .int 6 (tt + 1 + 1 + 1 + 1 + 1 + 1)] }).objs.size (slicePick vs.toArray (some (0 + (i : Int) * 1)) none (some 6)).toList.toArray := ⟨_, Heap.get?_push_size _ rfl, rfl, 0, by simp⟩
      refine sum_known hA hl5 hpk fun ts => ?_
      intro h6 tk6 hk6 _
      iterate 2 walk1
      · exact ⟨_, _, rfl⟩
      · exact ⟨_, _, rfl, fun b o e => hk6 b o (k2 b o (kp b o e))⟩
  case fin =>
    intro D h' tk ys vs' hD0 hDl hDp hlen hPv hF hns hk
    rw [List.filter_eq_self.mpr (fun _ _ => rfl)] at hF
    obtain ⟨ds, hds, hdl⟩ := ints_paired hF
    rw [hlen] at hdl
    obtain ⟨nD, hDp⟩ := hDp
    obtain ⟨F3, N3, hDn⟩ := comp_frame hD0 hDp hns hk F2 N2 (by intro p hp; rcases List.mem_cons.mp hp with rfl | hp; exact Nat.ne_of_lt (Heap.lt_size (N1 (L + 1, o1) (by k_mem)).1); rcases List.mem_cons.mp hp with rfl | hp; exact Nat.ne_of_lt (Heap.lt_size (N1 (L + 2, o2) (by k_mem)).1); cases hp)
    have hD1 := hDn (L + 1, o1) (by k_mem)
    have hD2 := hDn (L + 2, o2) (by k_mem)
    clear hDn F1 N1 F2 N2 hri hDl hk hns hr hk1 aIs hF hPv hlen hD0 hsz
    iterate 59 walk1
    rename_i D2 ws4 h4 F4 N4 hI4 hC4 hL4 lt4
    refine comp_list (fun v y => ∀ i t, v = Value.int i t → ∃ t', y = Value.int (i.fmod 3) t') hA ⟨_, (N4 (D2, _) (by k_mem)).1, rfl, _, rfl⟩ F4 N4 ?gelt ?gfin (by rw [hI4.length, hC4, hdl, sizeLine_eq]; decide)
    case gelt =>
      intro C v t m₂ E' hv hk hns hm
      obtain ⟨h5, g5, d5, t5, o5⟩ := t
      obtain ⟨j, hj⟩ := List.getElem?_of_mem hv
      obtain ⟨ti, rfl⟩ := intsAre_get hI4 hj
      iterate 1 walk1
      refine wpAny_Name (wpAny_loadName_local (by rfl) (by rfl) hns hm ?_) (by decide)
      iterate 2 walk1
      refine ⟨fun i' t' e => ?_, _, _, rfl, fun _ _ e => e⟩
      cases e
      exact ⟨_, rfl⟩
    case gfin =>
      intro T ts5 n5 h5 tk5 F5 N5 hT hP
      refine wpAny_storeName_cell (by rfl) (by rfl) (by rfl) ⟨_, (N5 (L + 2, o2) (by k_mem)).1, h2⟩ fun h6 ⟨o6, hc6, hd6⟩ hs6 => ?_
      have N5' : News h₀ L h5 [(L + 2, o2), (D, { cls := Value.type "list", data := Data.seq ys nD }), (T, listOf ts5.toArray n5), (L + 1, o1)] := News_pick N5 (pc (by k_mem) (pc (by k_mem) (pc (by k_mem) (pc (by k_mem) pn))))
      obtain ⟨F6, N6⟩ := mut_frame (fun b o hb e => (hs6.2 b hb).trans e) hc6 F5 N5' (.head (nc hD2 (nc (hT (L + 2, o2) (by k_mem)) (nc (Nat.ne_of_lt (Nat.lt_succ_self _)) nn))))
      dsimp only
      refine hfin D T ys.toList ts5 nD n5 o6 ds _ _ _ _ _ _ _ hd6 hds hdl (ints_map hI4 hP) F6 (by rw [Array.toArray_toList]; exact N6) ⟨rfl, rfl, rfl, trivial⟩ (Ne.symm (hT (D, _) (by k_mem))) hD1 hD2 (hT (L + 1, o1) (by k_mem)) (hT (L + 2, o2) (by k_mem)) ?ba ?bc
      case ba => rw [show Int.toNat 39 = 39 from rfl]; exact half_bound _
      case bc => rw [show Int.toNat 39 = 39 from rfl]; exact half_bound _
  exact hA
end
end
section
/- the part Law2 -/
open PySem PySem.W PyProof.Rows PySem.Spec PySem.Calls PySem.W.X
set_option maxRecDepth 100000
set_option maxHeartbeats 300000
set_option pp.deepTerms false
set_option pp.deepTerms.threshold 8
/-- the mail ahead of a turn, the mails and the marks -/
def layMail (es : Nat → List Nat) (cs : Nat → Nat) : Nat → List Nat
  | 0 => [13, 120, 46, 10, 46]
  | j + 1 => iter quoted (cs j) (46 :: 120 :: (es j ++ layMail es cs j))
def layMails (es : Nat → List Nat) (cs : Nat → Nat) : Nat → List (List Nat)
  | 0 => []
  | j + 1 => layMails es cs j ++ (List.range (cs j)).map fun q => iter quoted (q + 1) (46 :: 120 :: (es j ++ layMail es cs j))
def endOf (n : Nat) : List Nat := [[10], [13], [13, 10]].getD n []
/-- values that are texts with these codes -/
inductive TextsAre : List Value → List (List Nat) → Prop
  | nil : TextsAre [] []
  | cons {vs : List Value} {l : List (List Nat)} (x : List Nat) (t : Tok) : TextsAre vs l → TextsAre (.str ⟨x.toArray⟩ t :: vs) (x :: l)
abbrev tupOf (vs : Array Value) : Obj := { cls := .type "tuple", data := .seq vs }
abbrev tiObj (t : Addr) (i : Nat) : Obj := { cls := .type "tuple_iterator", data := .fields #[.ref t, .int i 0] }
section
variable {w : World} {A : Around} {s : Shared} {E : Value → Shared → Prop} {h₀ : Heap} {L : Addr} {m : Str → Option Value}
def esOf (ds : List Int) (j : Nat) : List Nat := endOf ((((ds.getD (5 - j) 0).fdiv 3).fmod 3).toNat)
def csOf (ds : List Int) (j : Nat) : Nat := (((ds.getD (5 - j) 0).fmod 3) + [2, 0, 0, 0].getD (3 - j) 0).toNat
theorem fmod3 (x : Int) : 0 ≤ x.fmod 3 ∧ x.fmod 3 < 3 := by
  rw [Int.fmod_eq_emod_of_nonneg _ (by decide)]
  omega
theorem at5 {j : Nat} (h : j < 4) : (3 - (j : Int) + 2).toNat = 5 - j := by omega
theorem end_sub {value slice : Expr} {l : Addr} {v0 v1 v2 : Str} {u0 u1 u2 u : Tok} {n : Nat} {y : Int} {Q : Value → Shared → Prop} (hl : s.heap.get? l = some (listOf #[Value.str v0 u0, Value.str v1 u1, Value.str v2 u2] n))
    (e0 : v0 = ⟨#[10]⟩) (e1 : v1 = ⟨#[13]⟩) (e2 : v2 = ⟨#[13, 10]⟩) {k : Nat} (hk : (y.fmod 3).toNat = k) (h : ∀ te, Q (.str ⟨(endOf k).toArray⟩ te) s)
    (hs : subscripted slice false (.ref l) (.int (y.fmod 3) u) = operate [.ref l, .int x u] (getItem (.ref l) (.int (y.fmod 3) u)) := by with_unfolding_all rfl) : wpAny (model PR w) A (subscriptTail value slice (.ref l) (.int (y.fmod 3) u)) Q E s := by
  subst hk
  obtain ⟨h0, h3⟩ := fmod3 y
  obtain ⟨te, hx⟩ : ∃ te, #[Value.str v0 u0, Value.str v1 u1, Value.str v2 u2][(y.fmod 3).toNat]? = some (Value.str ⟨(endOf (y.fmod 3).toNat).toArray⟩ te) := by
    subst e0 e1 e2
    generalize y.fmod 3 = x at h0 h3 ⊢
    have : x = 0 ∨ x = 1 ∨ x = 2 := by omega
    rcases this with rfl | rfl | rfl
    · exact ⟨u0, rfl⟩
    · exact ⟨u1, rfl⟩
    · exact ⟨u2, rfl⟩
  have hl' : s.heap.IsList l #[Value.str v0 u0, Value.str v1 u1, Value.str v2 u2] := ⟨_, hl, rfl, n, rfl⟩
  exact tail_any hl'.typeIs slot_list_getitem.lookup (wpAny_getItem_list hl' h0 (by omega) hx (h te)) hs
theorem end_at (ds : List Int) {j : Nat} (h : j < 4) : (((ds.getD (3 - (j : Int) + 2).toNat 0).fdiv 3).fmod 3).toNat = (((ds.getD (5 - j) 0).fdiv 3).fmod 3).toNat :=
  congrArg (fun i => (((ds.getD i 0).fdiv 3).fmod 3).toNat) (at5 h)
theorem TextsAre.length {vs : List Value} {l : List (List Nat)} : TextsAre vs l → vs.length = l.length
  | .nil => rfl
  | .cons _ _ h => by simp [h.length]
theorem TextsAre.app {vs ws : List Value} {l k : List (List Nat)} (h : TextsAre vs l) (h' : TextsAre ws k) : TextsAre (vs ++ ws) (l ++ k) := by
  induction h with
  | nil => exact h'
  | cons x t _ ih => exact .cons x t ih
theorem cs_few (ds : List Int) (j : Nat) : csOf ds j ≤ 4 := by
  unfold csOf
  have := fmod3 (ds.getD (5 - j) 0)
  have h2 : [2, 0, 0, 0].getD (3 - j) (0 : Int) ≤ 2 := by
    have : ∀ i, [2, 0, 0, 0].getD i (0 : Int) ≤ 2 := fun i => by
      match i with
      | 0 | 1 | 2 | 3 => decide
      | n + 4 => simp
    exact this _
  omega
theorem layMails_len (ds : List Int) : ∀ j, (layMails (esOf ds) (csOf ds) j).length ≤ 4 * j
  | 0 => Nat.le_refl _
  | j + 1 => by
    have h1 := layMails_len ds j
    have h2 := cs_few ds j
    rw [layMails, List.length_append, List.length_map, List.length_range]
    omega
theorem layMails_few (ds : List Int) {j : Nat} (h : j ≤ 4) : (layMails (esOf ds) (csOf ds) j).length ≤ 1000000 := by
  have := layMails_len ds j
  omega
theorem marks_few {Lv : List Value} {f : Nat → Int} {j : Nat} (h : IntsAre Lv ((List.range j).map f)) (hj : j ≤ 4) : Lv.toArray.size ≤ sizeLine := by
  have := h.length
  rw [List.length_map, List.length_range] at this
  rw [List.size_toArray, sizeLine_eq]
  omega
theorem cat_x (e m : List Nat) : (Str.ofString ".x" ++ (⟨e.toArray⟩ : Str)) ++ (⟨m.toArray⟩ : Str) = ⟨(46 :: 120 :: (e ++ m)).toArray⟩ := by
  have h : Str.ofString ".x" = ⟨#[46, 120]⟩ := by kernel_rfl
  rw [h]
  show (⟨(#[46, 120] ++ e.toArray) ++ m.toArray⟩ : Str) = _
  congr 1
  apply Array.ext'
  simp
theorem es_len (ds : List Int) (j : Nat) : (esOf ds j).length ≤ 2 := by
  unfold esOf endOf
  generalize ((((ds.getD (5 - j) 0).fdiv 3).fmod 3).toNat) = x
  match x with
  | 0 | 1 | 2 => decide
  | n + 3 => simp
theorem mail_len {e m : List Nat} (h : (iter quoted 0 (46 :: 120 :: (e ++ m))).length ≤ 40000) : e.length + m.length ≤ 39998 := by
  simp only [iter, List.length_cons, List.length_append] at h
  omega
theorem cs_sum (ds : List Int) (hdl : ds.length = 6) {j : Nat} (hj : j < 4) : ∃ x y : Int, ((ds.drop 2).map fun x => x.fmod 3).getD (3 - (j : Int)).toNat 0 = x ∧ [2, 0, 0, 0].getD (3 - (j : Int)).toNat 0 = y ∧ 0 ≤ x + y ∧ x + y ≤ 4 ∧ csOf ds j = (x + y).toNat := by
  have e1 : (3 - (j : Int)).toNat = 3 - j := by omega
  rw [e1]
  refine ⟨_, _, rfl, rfl, ?_⟩
  have e2 : ((ds.drop 2).map fun x => x.fmod 3).getD (3 - j) 0 = (ds.getD (5 - j) 0).fmod 3 := by
    have h1 : 3 - j < ((ds.drop 2).map fun x => x.fmod 3).length := by simp; omega
    have h2 : 5 - j < ds.length := by omega
    rw [List.getD_eq_getElem?_getD, List.getElem?_eq_getElem h1, List.getD_eq_getElem?_getD, List.getElem?_eq_getElem h2]
    simp only [Option.getD_some, List.getElem_map, List.getElem_drop]
    have : 2 + (3 - j) = 5 - j := by omega
    simp only [this]
  rw [e2]
  have h3 := fmod3 (ds.getD (5 - j) 0)
  have h4 : 0 ≤ [2, 0, 0, 0].getD (3 - j) (0 : Int) ∧ [2, 0, 0, 0].getD (3 - j) (0 : Int) ≤ 2 := by
    have : ∀ i, 0 ≤ [2, 0, 0, 0].getD i (0 : Int) ∧ [2, 0, 0, 0].getD i (0 : Int) ≤ 2 := fun i => by
      match i with
      | 0 | 1 | 2 | 3 => decide
      | n + 4 => simp
    exact this _
  refine ⟨by omega, by omega, rfl⟩
theorem int_sub {value slice : Expr} {l : Addr} {vs : List Value} {ns : List Int} {k x : Int} {u : Tok} {Q : Value → Shared → Prop} (hl : s.heap.IsList l vs.toArray) (hi : IntsAre vs ns)
    (h0 : 0 ≤ k) (h1 : k < ns.length) (hfit : k < 2 ^ 63) (hx : ns.getD k.toNat 0 = x) (h : ∀ t, Q (.int x t) s)
    (hs : subscripted slice false (.ref l) (.int k u) = operate [.ref l, .int k u] (getItem (.ref l) (.int k u)) := by with_unfolding_all rfl) :
    wpAny (model PR w) A (subscriptTail value slice (.ref l) (.int k u)) Q E s := by
  subst hx
  exact item_list_intsT hl hi h0 h1 hfit h hs
theorem x_fit {e m : List Nat} (h : e.length + m.length ≤ 39998) : (Str.ofString ".x" ++ (⟨e.toArray⟩ : Str)).length + (⟨m.toArray⟩ : Str).length ≤ sizeLine := by
  have h1 : Str.ofString ".x" = ⟨#[46, 120]⟩ := by kernel_rfl
  rw [h1, sizeLine_eq]
  show (#[46, 120] ++ e.toArray).size + m.toArray.size ≤ _
  rw [Array.size_append, List.size_toArray, List.size_toArray]
  show 2 + e.length + m.length ≤ _
  omega
theorem Knows.kst {m : Str → Option Value} {ps : List (Str × Value)} (K : Knows m ps) : Knows (kstB m ps) ps := by
  have e : kstB m ps = m := funext fun z => kstB_eq K.all fun _ => rfl
  rw [e]; exact K
theorem quote_known {l : List Nat} {t : Tok} {Q : Value → Shared → Prop} (G : Gnd w s.heap) (hroom : A.depth < recursionLimit) (hx : l.length ≤ 40000)
    (h : ∀ t', Kept s Yes (Q (.str ⟨(quoted l).toArray⟩ t'))) : wpAny (model PR w) A (call (.ref 174) [.str ⟨l.toArray⟩ t]) Q E s :=
  quote_text G hroom (by simpa using hx) h
theorem cs_size {x y : Int} {n : Nat} (h0 : 0 ≤ x + y) (hc : n = (x + y).toNat) : Builtin.Range.rangeSize 0 (x + y) 1 = ((n : Nat) : Int) := by
  have e : x + y = (n : Int) := by omega
  rw [e]
  unfold Builtin.Range.rangeSize
  rw [if_pos (by decide)]
  split <;> omega
theorem marks_next {Lv : List Value} {f : Nat → Int} {j : Nat} {t : Tok} (h : IntsAre Lv ((List.range j).map f)) : IntsAre (Lv ++ [.int (f j) t]) ((List.range (j + 1)).map f) := by
  rw [List.range_succ, List.map_append]
  exact intsAre_app h (.cons _ _ .nil)
theorem texts_next {Mv : List Value} {f : Nat → List Nat} {l : List (List Nat)} {q : Nat} {t : Tok} (h : TextsAre Mv (l ++ (List.range q).map f)) : TextsAre (Mv ++ [.str ⟨(f q).toArray⟩ t]) (l ++ (List.range (q + 1)).map f) := by
  rw [List.range_succ, List.map_append, ← List.append_assoc]
  exact h.app (.cons _ _ .nil)
theorem concat_known {x y z : Str} {t u : Tok} {Q : Value → Shared → Prop} (e : x ++ y = z) (G : Gnd w s.heap) (hroom : A.depth < recursionLimit) (hsz : x.length + y.length ≤ sizeLine)
    (h : ∀ t', Kept s Yes (Q (.str z t'))) : wpAny (model PR w) A (call (.ref 59) [.str x t, .str y u]) Q E s := by
  subst e
  exact concat_text G hroom hsz h
theorem law_b {Q : Flow → Shared → Prop} {D T : Addr} {ys tys : List Value} {nD nT : Nat} {o1 o2 : Obj} {ds : List Int} {a c : Int} {ta tc : Tok} (G : Gnd w h₀) (hA : A.handled = none) (hroom : A.depth + 1 < recursionLimit)
    (h2 : o2.data = .cell (some (.ref T))) (hds : IntsAre ys ds) (hdl : ds.length = 6) (htys : IntsAre tys ((ds.drop 2).map fun x => x.fmod 3))
    (F : Fr h₀ L s.heap m) (N : News h₀ L s.heap [(L + 2, o2), (D, listOf ys.toArray nD), (T, listOf tys.toArray nT), (L + 1, o1)]) (hm : Knows m [("drawn", .ref D), ("a", .int a ta), ("c", .int c tc)])
    (hq : ∀ j q, j < 4 → q ≤ csOf ds j → (iter quoted q (46 :: 120 :: (esOf ds j ++ layMail (esOf ds) (csOf ds) j))).length ≤ 40000)
    (hfin : ∀ h' tk' m' Ms Ld Mv Lv nM nL, Fr h₀ L h' m' → Knows m' [("a", .int a ta), ("c", .int c tc), ("mails", .ref Ms), ("laid", .ref Ld)] → News h₀ L h' [(Ld, listOf Lv.toArray nL), (Ms, listOf Mv.toArray nM), (L + 2, o2), (T, listOf tys.toArray nT)] →
      TextsAre Mv (layMails (esOf ds) (csOf ds) 4) → IntsAre Lv ((List.range 4).map fun i => ((layMails (esOf ds) (csOf ds) i).length : Int)) → wpAny (model PR w) A (execs (lawStmts.1.drop 9) (lawEnv L)) Q Never { s with heap := h', toks := tk' }) :
    wpAny (model PR w) A (execs (lawStmts.1.drop 5) (lawEnv L)) Q Never s := by
  walk_at "mineFill"
  have X := G.X
  obtain ⟨p, loose, mean, mg, mb, TT⟩ := G.T
  unfold lawEnv lawStmts lawScope
  simp only [List.drop]
  replace F := hm.fr F
  iterate 16 walk1
  refine wpAny_execs_cons ?_
  refine for_ruleQ ?_ (fun _ => rfl)
  iterate 11 walk1
  rename_i ha Ms hb lMs hc Ld hd lLd hx tup h1 F1 N1 lTup
  dsimp only
  obtain ⟨t3, t2, t1, t0, N1⟩ : ∃ t3 t2 t1 t0 : Tok, News h₀ L h1 [(tup, tupOf #[.int 3 t3, .int 2 t2, .int 1 t1, .int 0 t0]), (Ld, listOf ([] : List Value).toArray 0), (Ms, listOf ([] : List Value).toArray 0), (L + 2, o2), (D, listOf ys.toArray nD), (T, listOf tys.toArray nT), (L + 1, o1)] := ⟨_, _, _, _, N1⟩
  refine wpAny_pyIter_tuple ⟨_, (N1 _ (.head _)).1, rfl, 0, rfl⟩ ?_
  have F2 := F1.push (tiObj tup 0)
  have N2 := N1.push F1 (tiObj tup 0)
  have kI : ∀ p ∈ [(tup, tupOf #[Value.int 3 t3, .int 2 t2, .int 1 t1, .int 0 t0]), (Ld, listOf ([] : List Value).toArray 0), (Ms, listOf ([] : List Value).toArray 0), (L + 2, o2), (D, listOf ys.toArray nD), (T, listOf tys.toArray nT), (L + 1, o1)], p.1 ≠ h1.objs.size := fun p hp => Nat.ne_of_lt (Heap.lt_size (N1 p hp).1)
  revert F2 N2 kI
  dsimp only
  generalize h1.objs.size = I
  generalize h1.push (tiObj tup 0) = h2p
  intro F2 N2 kI
  have kI1 := kI _ (.head _)
  have kI2 := kI (Ld, _) (by k_mem)
  have kI3 := kI (Ms, _) (by k_mem)
  have kI4 := kI (L + 2, _) (by k_mem)
  have kI5 := kI (D, _) (by k_mem)
  have kI6 := kI (T, _) (by k_mem)
  have kI7 := kI (L + 1, _) (by k_mem)
  clear kI F1 N1 hm
  dsimp only at kI1 kI2 kI3 kI4 kI5 kI6 kI7
  refine ⟨0, fun k s' => ∃ (j : Nat) (h' : Heap) (tk : Nat) (m : Str → Option Value) (tm : Tok) (Mv Lv : List Value) (nM nL : Nat) (oI : Obj), s' = { s with heap := h', toks := tk } ∧ j ≤ 4 ∧ k = 4 - j ∧ oI.cls = .type "tuple_iterator" ∧ oI.data = .fields #[.ref tup, .int j 0] ∧
    Fr h₀ L h' m ∧ Knows m [("drawn", .ref D), ("a", .int a ta), ("c", .int c tc), ("mail", .str ⟨(layMail (esOf ds) (csOf ds) j).toArray⟩ tm), ("mails", .ref Ms), ("laid", .ref Ld)] ∧
    News h₀ L h' [(I, oI), (tup, tupOf #[.int 3 t3, .int 2 t2, .int 1 t1, .int 0 t0]), (Ld, listOf Lv.toArray nL), (Ms, listOf Mv.toArray nM), (L + 2, o2), (D, listOf ys.toArray nD), (T, listOf tys.toArray nT), (L + 1, o1)] ∧
    TextsAre Mv (layMails (esOf ds) (csOf ds) j) ∧ IntsAre Lv ((List.range j).map fun i => ((layMails (esOf ds) (csOf ds) i).length : Int)), 4, Nat.zero_le _, ?_, ?_⟩
  · exact ⟨0, _, _, _, _, [], [], 0, 0, tiObj tup 0, rfl, Nat.zero_le _, rfl, rfl, rfl, F2, ⟨rfl, rfl, rfl, rfl, rfl, rfl, trivial⟩, N2, .nil, .nil⟩
  · clear F2 N2
    rintro Qb k s' hQb htk ⟨j, h', tk, m, tm, Mv, Lv, nM, nL, oI, rfl, hj, rfl, hoc, hod, F', hm, N', hMv, hLv⟩
    by_cases hlt : j < 4
    · obtain ⟨tj, hxj⟩ : ∃ tj, #[Value.int 3 t3, .int 2 t2, .int 1 t1, .int 0 t0][j]? = some (.int (3 - (j : Int)) tj) := by
        have : j = 0 ∨ j = 1 ∨ j = 2 ∨ j = 3 := by omega
        rcases this with rfl | rfl | rfl | rfl
        · exact ⟨_, rfl⟩
        · exact ⟨_, rfl⟩
        · exact ⟨_, rfl⟩
        · exact ⟨_, rfl⟩
      refine wpAny_pyNext_tuple_item ⟨oI, (N' _ (.head _)).1, hoc, hod⟩ ⟨_, (N' (tup, _) (by k_mem)).1, rfl, 0, rfl⟩ hxj fun h3 hit3 hs3 => ?_
      obtain ⟨o3, ho3, hoc3, hod3⟩ := hit3
      refine owned_name ?_
      obtain ⟨F3, N3⟩ := mut_frame (fun b o hb e => (hs3.2 b hb).trans e) ho3 F' N' (.head (nc kI1 (nc kI2 (nc kI3 (nc kI4 (nc kI5 (nc kI6 (nc kI7 nn))))))))
      replace F3 := hm.fr F3
      refine wpAny_assign_Name ?_
      clear F' N' hs3
      walk1
      refine wpAny_execs_cons ?_
      iterate 24 walk1
      rename_i e1 Le h4 Fe Ne lLe te0
      refine end_sub (Ne _ (.head _)).1 (by kernel_rfl) (by kernel_rfl) (by kernel_rfl) (end_at ds hlt) fun te => ?_
      show wpAny (model PR w) A (storeName _ _ (Value.str ⟨(esOf ds j).toArray⟩ te)) _ _ _
      iterate 14 walk1
      rename_i Fe Nw
      refine len_known (n := (layMails (esOf ds) (csOf ds) j).length) ⟨_, (Nw (Ms, _) (by k_mem)).1, rfl, _, rfl⟩ (by rw [List.size_toArray]; exact hMv.length) (layMails_few ds hj) fun tl tkl => ?_
      dsimp only
      iterate 1 walk1
      refine wpAny_list_append_plain ⟨nL, (Nw (Ld, _) (by k_mem)).1⟩ (fun h5 ⟨n5, hp5⟩ hs5 => ?_) (marks_few hLv hj)
      rw [List.push_toArray] at hp5
      obtain ⟨F5, N5⟩ := mut_frame (fun b o hb e => (hs5.2 b hb).trans e) hp5 Fe (News_pick Nw (l := [(Ld, listOf Lv.toArray nL), (I, o3), (tup, tupOf #[.int 3 t3, .int 2 t2, .int 1 t1, .int 0 t0]), (Ms, listOf Mv.toArray nM), (L + 2, o2), (D, listOf ys.toArray nD), (T, listOf tys.toArray nT), (L + 1, o1)]) (pc (by k_mem) (pc (by k_mem) (pc (by k_mem) (pc (by k_mem) (pc (by k_mem) (pc (by k_mem) (pc (by k_mem) (pc (by k_mem) pn)))))))))
        (.head (nc (Ne.symm kI2) (nc (Nat.ne_of_gt lTup.1) (nc (Nat.ne_of_lt lLd.1) (nc (Nat.ne_of_lt lLd.2.1) (nc (Nat.ne_of_lt lLd.2.2.1) (nc (Nat.ne_of_lt lLd.2.2.2.1) (nc (Nat.ne_of_lt lLd.2.2.2.2) nn))))))))
      dsimp only
      clear Fe Nw
      iterate 9 walk1
      have hmail := hq j 0 hlt (Nat.zero_le _)
      have hml := mail_len hmail
      have hel := es_len ds j
      refine add_str (fun te2 tk2 => ?_) (by rw [sizeLine_eq]; show (Array.size #[46, 120]) + _ ≤ _; show 2 + (esOf ds j).toArray.size ≤ _; rw [List.size_toArray]; omega)
      dsimp only
      iterate 4 walk1
      obtain ⟨M0, hM0⟩ : ∃ M0, 46 :: 120 :: (esOf ds j ++ layMail (esOf ds) (csOf ds) j) = M0 := ⟨_, rfl⟩
      have hqj := fun q => hq j q hlt
      rw [hM0] at hqj
      have hcat : (Str.ofString ".x" ++ (⟨(esOf ds j).toArray⟩ : Str)) ++ (⟨(layMail (esOf ds) (csOf ds) j).toArray⟩ : Str) = ⟨M0.toArray⟩ := by rw [← hM0]; exact cat_x _ _
      refine concat_known hcat (G.keeps F5.keep) (by omega) (x_fit hml) (fun t6 h6 tk6 hk6 _ => ?_)
      obtain ⟨F6, N6⟩ := kept_frame hk6 F5 N5
      dsimp only
      iterate 1 walk1
      refine wpAny_execs_cons ?_
      refine for_ruleQ ?_ (fun _ => rfl)
      iterate 8 walk1
      have Nw := ‹News _ _ _ _›
      obtain ⟨x, y, hx, hy, h0xy, h4xy, hcs⟩ := cs_sum ds hdl hlt
      refine int_sub ⟨_, (Nw (T, _) (by k_mem)).1, rfl, nT, rfl⟩ htys (by omega) (by rw [List.length_map, List.length_drop, hdl]; omega) (by omega) hx fun tx => ?_
      clear Nw
      dsimp only
      iterate 12 walk1
      dsimp only
      iterate 1 walk1
      have Nw := ‹News _ _ _ _›
      refine int_sub (vs := [.int 2 _, .int 0 _, .int 0 _, .int 0 _]) (ns := [2, 0, 0, 0]) ⟨_, (Nw _ (.head _)).1, rfl, 0, rfl⟩ (.cons _ _ (.cons _ _ (.cons _ _ (.cons _ _ .nil)))) (by omega) (by show _ < 4; omega) (by omega) hy fun ty => ?_
      clear Nw
      iterate 3 walk1
      have hr := ‹IsRange _ _ _ _ _ _ _ _›
      rename_i h7 tk7 _ _ _ aIs F7 N7 hk7
      refine wpAny_pyIter_range hr (small_one (by omega) (by omega) (by omega) (by omega)) ?_
      rw [cs_size h0xy hcs]
      have N7 := News_pick N7 (l := [(Ld, listOf (Lv ++ [Value.int ((layMails (esOf ds) (csOf ds) j).length : Int) tl]).toArray n5), (I, o3), (tup, tupOf #[.int 3 t3, .int 2 t2, .int 1 t1, .int 0 t0]), (Ms, listOf Mv.toArray nM), (L + 2, o2), (D, listOf ys.toArray nD), (T, listOf tys.toArray nT), (L + 1, o1)]) (pc (by k_mem) (pc (by k_mem) (pc (by k_mem) (pc (by k_mem) (pc (by k_mem) (pc (by k_mem) (pc (by k_mem) (pc (by k_mem) pn))))))))
      have F8 := F7.push (riObj 0 ((csOf ds j : Nat) : Int) 1)
      have N8 := N7.push F7 (riObj 0 ((csOf ds j : Nat) : Int) 1)
      obtain ⟨Lw, hLw⟩ : ∃ Lw, Lv ++ [Value.int ((layMails (esOf ds) (csOf ds) j).length : Int) tl] = Lw := ⟨_, rfl⟩
      have hLwi : IntsAre Lw ((List.range (j + 1)).map fun i => ((layMails (esOf ds) (csOf ds) i).length : Int)) := by rw [← hLw]; exact marks_next ‹IntsAre Lv _›
      obtain ⟨cn, hcn⟩ : ∃ cn, csOf ds j = cn := ⟨_, rfl⟩
      have hjnext : layMail (esOf ds) (csOf ds) (j + 1) = iter quoted cn M0 := by rw [← hM0, ← hcn]; rfl
      have hmsnext : layMails (esOf ds) (csOf ds) (j + 1) = layMails (esOf ds) (csOf ds) j ++ (List.range cn).map fun q => iter quoted (q + 1) M0 := by rw [← hM0, ← hcn]; rfl
      have hcn4 := cs_few ds j
      rw [hLw] at N8
      rw [hcn] at N8 F8 hqj hcn4
      rw [hcn]
      have kJ : ∀ p ∈ [(Ld, listOf Lw.toArray n5), (I, o3), (tup, tupOf #[Value.int 3 t3, .int 2 t2, .int 1 t1, .int 0 t0]), (Ms, listOf Mv.toArray nM), (L + 2, o2), (D, listOf ys.toArray nD), (T, listOf tys.toArray nT), (L + 1, o1)], p.1 ≠ h7.objs.size := by rw [← hLw]; exact fun p hp => Nat.ne_of_lt (Heap.lt_size (N7 p hp).1)
      clear hr hk7 N7 aIs F7
      revert F8 N8 kJ
      dsimp only
      generalize h7.objs.size = J
      generalize h7.push (riObj 0 ((cn : Nat) : Int) 1) = h8
      intro F8 N8 kJ
      have kJ1 := kJ (Ld, _) (by k_mem)
      have kJ2 := kJ (I, _) (by k_mem)
      have kJ3 := kJ (tup, _) (by k_mem)
      have kJ4 := kJ (Ms, _) (by k_mem)
      have kJ5 := kJ (L + 2, _) (by k_mem)
      have kJ6 := kJ (D, _) (by k_mem)
      have kJ7 := kJ (T, _) (by k_mem)
      have kJ8 := kJ (L + 1, _) (by k_mem)
      clear kJ
      dsimp only at kJ1 kJ2 kJ3 kJ4 kJ5 kJ6 kJ7 kJ8
      refine ⟨0, fun k s' => ∃ (q : Nat) (h' : Heap) (tk : Nat) (m : Str → Option Value) (tq : Tok) (Mw : List Value) (nM : Nat), s' = { s with heap := h', toks := tk } ∧ q ≤ cn ∧ k = cn - q ∧
        Fr h₀ L h' m ∧ Knows m [("drawn", .ref D), ("a", .int a ta), ("c", .int c tc), ("mail", .str ⟨(iter quoted q M0).toArray⟩ tq), ("mails", .ref Ms), ("laid", .ref Ld)] ∧
        News h₀ L h' [(J, riObj q ((cn : Int) - q) 1), (Ms, listOf Mw.toArray nM), (Ld, listOf Lw.toArray n5), (I, o3), (tup, tupOf #[.int 3 t3, .int 2 t2, .int 1 t1, .int 0 t0]), (L + 2, o2), (D, listOf ys.toArray nD), (T, listOf tys.toArray nT), (L + 1, o1)] ∧
        TextsAre Mw (layMails (esOf ds) (csOf ds) j ++ (List.range q).map fun q => iter quoted (q + 1) M0), cn, Nat.zero_le _, ?_, ?_⟩
      · refine ⟨0, _, _, _, t6, Mv, nM, rfl, Nat.zero_le _, rfl, F8, ⟨rfl, rfl, rfl, rfl, rfl, rfl, trivial⟩, News_pick N8 (pc (by k_mem) (pc (by k_mem) (pc (by k_mem) (pc (by k_mem) (pc (by k_mem) (pc (by k_mem) (pc (by k_mem) (pc (by k_mem) (pc (by k_mem) pn))))))))), ?_⟩
        simpa using hMv
      · clear F8 N8
        clear N7 hm
        rintro Qc k s' hQc htk2 ⟨q, h', tk, m, tq, Mw, nM, rfl, hq2, rfl, F', hm, N', hMw⟩
        by_cases hlt2 : q < cn
        · refine wpAny_pyNext_range_item (N' _ (.head _)).1 (by omega) fun h3 hit3 hs3 => ?_
          refine owned_name ?_
          obtain ⟨F3, N3⟩ := mut_frame (fun b o hb e => (hs3.2 b hb).trans e) hit3 F' N' (.head (nc kJ4 (nc kJ1 (nc kJ2 (nc kJ3 (nc kJ5 (nc kJ6 (nc kJ7 (nc kJ8 nn)))))))))
          replace F3 := hm.fr F3
          refine wpAny_assign_Name ?_
          clear F' N'
          walk1
          refine wpAny_execs_cons ?_
          iterate 8 walk1
          have hlen := hqj q (by omega)
          rename_i h9 F9 N9
          refine quote_known (G.keeps (Fr.keep F9)) (by omega) hlen (fun t10 h10 tk10 hk10 _ => ?_)
          obtain ⟨F10, N10⟩ := kept_frame hk10 F9 N9
          clear F9 N9 hk10
          dsimp only
          iterate 11 walk1
          rename_i h11 F11 N11
          have hfew : Mw.toArray.size ≤ sizeLine := by
            have h1 := hMw.length
            have h2 := layMails_len ds j
            rw [List.length_append, List.length_map, List.length_range] at h1
            rw [List.size_toArray, sizeLine_eq]
            omega
          refine wpAny_list_append_plain ⟨nM, (N11 (Ms, _) (by k_mem)).1⟩ (fun h12 ⟨n12, hp12⟩ hs12 => ?_) hfew
          rw [List.push_toArray] at hp12
          have N11 := News_pick N11 (l := [(Ms, listOf Mw.toArray nM), (J, riObj ((q : Int) + 1) ((cn : Int) - q - 1) 1), (Ld, listOf Lw.toArray n5), (I, o3), (tup, tupOf #[.int 3 t3, .int 2 t2, .int 1 t1, .int 0 t0]), (L + 2, o2), (D, listOf ys.toArray nD), (T, listOf tys.toArray nT), (L + 1, o1)]) (pc (by k_mem) (pc (by k_mem) (pc (by k_mem) (pc (by k_mem) (pc (by k_mem) (pc (by k_mem) (pc (by k_mem) (pc (by k_mem) (pc (by k_mem) pn)))))))))
          obtain ⟨F12, N12⟩ := mut_frame (fun b o hb e => (hs12.2 b hb).trans e) hp12 F11 N11 (.head (nc (Ne.symm kJ4) (nc (Nat.ne_of_gt lLd.1) (nc (Ne.symm kI3) (nc (Nat.ne_of_gt lTup.2.1) (nc (Nat.ne_of_lt lMs.1) (nc (Nat.ne_of_lt lMs.2.1) (nc (Nat.ne_of_lt lMs.2.2.1) (nc (Nat.ne_of_lt lMs.2.2.2) nn)))))))))
          clear F11 N11
          refine wpAny_execs_nil ?_
          try dsimp only
          have er : ((cn : Int) - q - 1) = (cn : Int) - ((q + 1 : Nat) : Int) := by omega
          have eq1 : ((q : Int) + 1) = ((q + 1 : Nat) : Int) := by omega
          rw [er, eq1] at N12
          exact hQc _ ⟨_, Nat.sub_lt_sub_left hlt2 (Nat.lt_succ_self q), q + 1, h12, _, _, t10, _, n12, rfl, hlt2, rfl, F12, ⟨rfl, rfl, rfl, rfl, rfl, rfl, trivial⟩, News_pick N12 (pc (by k_mem) (pc (by k_mem) (pc (by k_mem) (pc (by k_mem) (pc (by k_mem) (pc (by k_mem) (pc (by k_mem) (pc (by k_mem) (pc (by k_mem) pn))))))))), texts_next (f := fun q => iter quoted (q + 1) M0) hMw⟩
        · have hqe : q = cn := by omega
          subst hqe
          rw [← hjnext] at hm
          rw [← hmsnext] at hMw
          refine wpAny_pyNext_range_end hA (N' _ (.head _)).1 (by omega) fun h3 hx => ?_
          obtain ⟨F3, N3⟩ := ext_frame hx (nc kJ4 (nc kJ1 (nc kJ2 (nc kJ3 (nc kJ5 (nc kJ6 (nc kJ7 (nc kJ8 nn)))))))) F' N'
          replace F3 := hm.fr F3
          clear F' N'
          unfold Over
          dsimp only
          refine wpAny_execs_nil ?_
          try dsimp only
          exact hQb _ ⟨_, Nat.sub_lt_sub_left hlt (Nat.lt_succ_self j), j + 1, h3, _, _, tq, Mw, Lw, nM, n5, o3, rfl, hlt, rfl, hoc3, hod3, F3, hm.kst, News_pick N3 (pc (by k_mem) (pc (by k_mem) (pc (by k_mem) (pc (by k_mem) (pc (by k_mem) (pc (by k_mem) (pc (by k_mem) (pc (by k_mem) pn)))))))), hMw, hLwi⟩
    · have hje : j = 4 := by omega
      subst hje
      refine wpAny_pyNext_tuple_end hA ⟨oI, (N' _ (.head _)).1, hoc, hod⟩ ⟨_, (N' (tup, _) (by k_mem)).1, rfl, 0, rfl⟩ rfl (fun h3 hx => ?_)
      obtain ⟨F3, N3⟩ := ext_frame hx (nc kI1 (nc kI2 (nc kI3 (nc kI4 (nc kI5 (nc kI6 (nc kI7 nn))))))) F' N'
      replace F3 := hm.fr F3
      clear F' N'
      unfold Over
      dsimp only
      exact hfin _ _ _ Ms Ld Mv Lv nM nL F3 ⟨rfl, rfl, rfl, rfl, trivial⟩ (News_pick N3 (pc (by k_mem) (pc (by k_mem) (pc (by k_mem) (pc (by k_mem) pn))))) hMv hLv
end
end
section
/- the part Law3 -/
open PySem PySem.W PyProof.Rows PySem.Spec PySem.Calls PySem.W.X
set_option maxRecDepth 100000
set_option maxHeartbeats 400000
set_option pp.deepTerms false
set_option pp.deepTerms.threshold 8
section
variable {w : World} {A : Around} {s : Shared} {E : Value → Shared → Prop} {h₀ : Heap} {L : Addr} {m : Str → Option Value}
/-- how many c the row gets -/
def total (tm : List Int) : Int := ((List.range 4).map fun j => (tm.take (j + 1)).sum).sum
theorem paired_upto {g : Int → Int} : ∀ {vs ys : List Value} {b : Int}, Paired (fun v y => ∀ i t, v = Value.int i t → ∃ t', y = Value.int (g i) t') vs ys → (∀ (j : Nat) v, vs[j]? = some v → ∃ t, v = Value.int (b + (j : Int)) t) → IntsAre ys ((List.range vs.length).map fun j : Nat => g (b + (j : Int)))
  | _, _, _, .nil, _ => .nil
  | v :: vs, y :: ys, b, .cons hy hr, hv => by
    obtain ⟨t, rfl⟩ := hv 0 v rfl
    obtain ⟨t', rfl⟩ := hy _ t rfl
    have ih := paired_upto (b := b + 1) hr fun j v e => by
      obtain ⟨t, e'⟩ := hv (j + 1) v e
      exact ⟨t, by rw [e']; congr 1; omega⟩
    rw [List.length_cons, List.range_succ_eq_map, List.map_cons, List.map_map]
    refine .cons _ t' ?_
    have e : (fun j : Nat => g (b + 1 + (j : Int))) = ((fun j : Nat => g (b + (j : Int))) ∘ Nat.succ) := by
      funext j
      show g _ = g _
      congr 1
      show b + 1 + (j : Int) = b + ((j + 1 : Nat) : Int)
      omega
    rw [← e]
    exact ih
theorem total_bounds {tm : List Int} (htl : tm.length = 4) (ht2 : ∀ x ∈ tm, 0 ≤ x ∧ x ≤ 2) : 0 ≤ total tm ∧ total tm ≤ 20 := by
  match tm, htl with
  | [p, q, r, t], _ =>
    have h1 := ht2 p (by simp)
    have h2 := ht2 q (by simp)
    have h3 := ht2 r (by simp)
    have h4 := ht2 t (by simp)
    simp only [total, List.range, List.range.loop, List.map_cons, List.map_nil, List.take_succ_cons, List.take_zero, List.take_nil, List.sum_cons, List.sum_nil]
    omega
theorem law_c {Q : Flow → Shared → Prop} {T Ms Ld : Addr} {tys Mv Lv : List Value} {nT nM nL : Nat} {o2 : Obj} {tm : List Int} {a c : Int} {ta tc : Tok} (G : Gnd w h₀) (hA : A.handled = none) (hroom : A.depth + 1 < recursionLimit)
    (h2 : o2.data = .cell (some (.ref T))) (htys : IntsAre tys tm) (htl : tm.length = 4) (ht2 : ∀ x ∈ tm, 0 ≤ x ∧ x ≤ 2)
    (F : Fr h₀ L s.heap m) (hm : Knows m [("a", .int a ta), ("c", .int c tc), ("mails", .ref Ms), ("laid", .ref Ld)]) (N : News h₀ L s.heap [(Ld, listOf Lv.toArray nL), (Ms, listOf Mv.toArray nM), (L + 2, o2), (T, listOf tys.toArray nT)])
    (hfin : ∀ h' tk' m' R ST s0 s1 s2 s3 rv, Fr h₀ L h' m' → Knows m' [("a", .int a ta), ("c", .int c tc), ("mails", .ref Ms), ("laid", .ref Ld), ("row", .ref R), ("struck", .ref ST)] →
      News h₀ L h' [(ST, listOf #[.ref s0, .ref s1, .ref s2, .ref s3] 0), (s0, listOf #[] 0), (s1, listOf #[] 0), (s2, listOf #[] 0), (s3, listOf #[] 0), (R, listOf rv.toArray 0), (Ld, listOf Lv.toArray nL), (Ms, listOf Mv.toArray nM), (L + 2, o2), (T, listOf tys.toArray nT)] →
      IntsAre rv (a :: List.replicate (7 + total tm).toNat c) → (R < s0 ∧ Ld < s0 ∧ Ms < s0 ∧ L + 2 < s0 ∧ T < s0) → (s0 < s1 ∧ s1 < s2 ∧ s2 < s3 ∧ s3 < ST) → wpAny (model PR w) A (execs (lawStmts.1.drop 11) (lawEnv L)) Q Never { s with heap := h', toks := tk' }) :
    wpAny (model PR w) A (execs (lawStmts.1.drop 9) (lawEnv L)) Q Never s := by
  walk_at "mineFill"
  have X := G.X
  obtain ⟨p, loose, mean, mg, mb, TT⟩ := G.T
  unfold lawEnv lawStmts lawScope
  simp only [List.drop]
  replace F := hm.fr F
  iterate 20 walk1
  rename_i Pa ha la Pc hc F0 N0 lc
  refine wpAny_ListComp_free (fun _ => true) (fun v y => ∀ i t, v = Value.int i t → ∃ t', y = Value.int ((tm.take i.toNat).sum) t') (by rfl) (by decide) (by rfl) (by decide) (by rfl) ?_
  dsimp only
  iterate 9 walk1
  have hr := ‹IsRange _ _ _ _ _ _ _ _›
  rename_i h1r tkr _ _ _ aIs F1 N1 hk1
  refine wpAny_pyIter_range hr (small_one (by omega) (by omega) (by omega) (by omega)) ?_
  have hsz : Builtin.Range.rangeSize 1 5 1 = ((4 : Nat) : Int) := by decide
  rw [hsz]
  have F2 := F1.push (riObj 1 ((4 : Nat) : Int) 1)
  have N2 := N1.push F1 (riObj 1 ((4 : Nat) : Int) 1)
  dsimp only
  have hri : IsRangeIter (h1r.push (riObj 1 ((4 : Nat) : Int) 1)) h1r.objs.size (1 + ((0 : Nat) : Int) * 1) (((4 : Nat) : Int) - ((0 : Nat) : Int)) 1 := (N2 _ (.head _)).1
  refine' ⟨h1r.objs.size, [h1r.objs.size], [h1r.objs.size], 4, _, _, rfl, Walks_bound (Walks.range ?_ h1r.objs.size 1 1 4), ?few, hri, ?low, ?quiet, ?fin⟩
  case few => rw [sizeLine_eq]; decide
  case low => intro b hb; rw [List.mem_singleton.mp hb]; show _ < (h1r.push _).objs.size; rw [Heap.size_push]; exact Nat.lt_succ_self _
  case quiet =>
    refine ⟨fun C i v s₃ m₃ E' hC hP hn3 hm3 hk3 htk3 => ?_, fun C i v s₃ m₃ E' hC hP _ hn3 hm3 hk3 htk3 => ?_⟩
    · show wpAny _ _ (pure true) _ _ _
      exact wpAny_pure ⟨rfl, _, _, rfl, fun _ _ e => e⟩
    · obtain ⟨hi6, tk3, rfl⟩ := hP
      obtain ⟨hh, gg, dd, tt, oo⟩ := s₃
      have hb0 : ∀ b o, h₀.get? b = some o → hh.get? b = some o := fun b o e => hk3 b o (by simpa using Nat.ne_of_lt (Heap.lt_size (F1.keep b o e))) (F2.keep b o e)
      have T4 := TT.keeps hb0
      have hgs : mg "sum" = none := ns_none_of X TT.g (by kernel_rfl)
      have hbs : mb "sum" = some (.builtin "sum") := (TT.builtins _ (by decide)).trans boot_sum
      iterate 1 walk1
      refine Name_function_global rfl rfl (loadGlobal_builtin T4.g hgs T4.b hbs ?_) (by decide)
      iterate 3 walk1
      have hcell : ∃ o, hh.get? (L + 1 + 1) = some o ∧ o.data = .cell (some (.ref T)) := ⟨o2, hk3 _ _ (by simpa using Nat.ne_of_lt (Heap.lt_size (N1 (L + 2, o2) (by k_mem)).1)) (N2 (L + 2, o2) (by k_mem)).1, h2⟩
      refine wpAny_Name (wpAny_loadName_cell (by rfl) (by rfl) (by rfl) hcell ?_) (by decide)
      iterate 2 walk1
      refine wpAny_Name (wpAny_loadName_local (by rfl) (by rfl) hn3 hm3 ?_) (by decide)
      iterate 1 walk1
      have htyl := ‹IntsAre tys tm›
      have hlT : hh.IsList T tys.toArray := ⟨_, hk3 _ _ (by simpa using Nat.ne_of_lt (Heap.lt_size (N1 (T, _) (by k_mem)).1)) (N2 (T, listOf tys.toArray nT) (by k_mem)).1, rfl, nT, rfl⟩
      have hvl : tys.toArray.size ≤ sizeLine := by rw [List.size_toArray, htyl.length, htl, sizeLine_eq]; decide
      refine subscriptTail_ops (T := "list") (ops := _) (Heap.IsList.typeIs (s := { heap := hh.push _, gens := gg, drawn := dd, toks := _, os := oo }) (hlT.push _)) list_getitem_lookup
        (wpAny_getItem_list_slice (hlT.push _) (Heap.IsSliceOf.new ..) .none (.int _ _) .none (by decide) ?_ hvl) (by with_unfolding_all rfl) (by intro _; with_unfolding_all rfl)
      iterate 1 walk1
      have hpk := slice_ints_uptoW htyl (y := 1 + (i : Int) * 1) (by omega)
      dsimp only
      generalize hPk : slicePick tys.toArray none (some (1 + (i : Int) * 1)) none = pk at hpk ⊢
      refine sum_known hA (vs := pk.toList) ⟨_, Heap.get?_push_size _ rfl, rfl, 0, by simp⟩ hpk fun ts => ?_
      intro h6 tk6 hk6 _
      refine ⟨fun i' t' e => ?_, _, _, rfl, fun b o e => hk6 b o (Heap.get?_push_of_some _ (Heap.get?_push_of_some _ e))⟩
      cases e
      exact ⟨_, rfl⟩
  case fin =>
    intro D h' tk ys vs' hD0 hDl hDp hlen hPv hF hk
    rw [List.filter_eq_self.mpr (fun _ _ => rfl)] at hF
    have hds := paired_upto (g := fun i => (tm.take i.toNat).sum) (b := 1) hF fun j v e => by
      obtain ⟨_, t, rfl⟩ := hPv j v e
      exact ⟨t, by congr 1; omega⟩
    rw [hlen] at hds
    have htot : ((List.range 4).map fun j : Nat => (tm.take (1 + (j : Int)).toNat).sum) = (List.range 4).map fun j => (tm.take (j + 1)).sum := by
      congr 1
      funext j
      congr 2
      omega
    rw [htot] at hds
    iterate 1 walk1
    refine sum_known hA hDl hds fun ts => ?_
    intro h6 tk6 hk6 _
    obtain ⟨F6, N6⟩ := kept_frame (fun b o e => hk6 b o (hk b o (by simpa using Nat.ne_of_lt (Heap.lt_size e)) (Heap.get?_push_of_some _ e))) F1 N1
    clear hk6 hk hPv hF hlen hDl hDp hD0 hri F2 N2 F1 N1 hr aIs hk1 htot hds
    obtain ⟨hS0, hS1⟩ := total_bounds htl ht2
    show wpAny (model PR w) A (binaryOp .Add _ (.int (total tm) ts)) _ _ _
    revert hS0 hS1
    generalize hS : total tm = S
    intro hS0 hS1
    dsimp only
    iterate 2 walk1
    dsimp only
    rename_i n0 hn1 hn2 hn3 hn4 lR0
    iterate 25 walk1
    rename_i R ws hx1 hI lR hx2 s0 hx3 l0 s1 hx4 l1 s2 hx5 l2 s3 hx6 l3 ST hx7 lS hx8 F8 N8
    dsimp only
    rw [List.flatten_replicate_singleton, ← hS] at hI
    refine hfin hx8 _ _ R ST s0 s1 s2 s3 ws F8 ⟨rfl, rfl, rfl, rfl, rfl, rfl, trivial⟩ (News_pick N8 (pc (by k_mem) (pc (by k_mem) (pc (by k_mem) (pc (by k_mem) (pc (by k_mem) (pc (by k_mem) (pc (by k_mem) (pc (by k_mem) (pc (by k_mem) (pc (by k_mem) pn))))))))))) hI
      ⟨l0.1, l0.2.2.2.2.1, l0.2.2.2.2.2.1, l0.2.2.2.2.2.2.1, l0.2.2.2.2.2.2.2⟩ ⟨l1.1, l2.1, l3.1, lS.1⟩
  exact hA
end
end
section
/- the part Txt0 -/
open PySem PySem.W PyProof.Rows PySem.Spec PySem.Calls PySem.W.X PySem.NumText
set_option maxRecDepth 100000
def strOf (n : Int) : Str := Str.ofString (toString n)
theorem str_neg (m : Nat) : strOf (Int.negSucc m) = Str.ofString ("-" ++ Nat.repr (m + 1)) := rfl
theorem str_nat (m : Nat) : strOf (Int.ofNat m) = Str.ofString (Nat.repr m) := rfl
theorem nat_len {m : Nat} (h : m < 10 ^ 60) : (Nat.repr m).length ≤ 60 := by
  have h1 := toString_length_le (v := (m : Int)) (by omega) (k := 60) (by decide) (by omega)
  rw [ofString_len] at h1
  exact h1
theorem strOf_len {n : Int} (h : n.natAbs < 10 ^ 60) : (strOf n).length ≤ 70 := by
  cases n with
  | ofNat m =>
    rw [str_nat, ofString_len]
    exact Nat.le_trans (nat_len h) (by decide)
  | negSucc m =>
    rw [str_neg, ofString_len, String.length_append]
    have h2 : (Nat.repr (m + 1)).length ≤ 60 := nat_len h
    have h3 : "-".length = 1 := rfl
    omega
theorem digits_cps (m : Nat) : (Str.ofString (Nat.repr m)).cps.toList = (Nat.toDigits 10 m).map Char.toNat := KIN.signs_num m
theorem digits_ok (m : Nat) : AllDigits ((Nat.toDigits 10 m).map Char.toNat) := by
  intro c hc
  obtain ⟨ch, hch, e⟩ := List.mem_map.mp hc
  have r := digit_range (Nat.isDigit_of_mem_toDigits (by decide) (by decide) hch)
  rw [← e]
  exact r
theorem digits_ne (m : Nat) : (Nat.toDigits 10 m).map Char.toNat ≠ [] := by
  intro e
  have h := toDigits_len_ge 10 m
  rw [List.map_eq_nil_iff.mp e] at h
  exact absurd h (by decide)
theorem text_back {n : Int} (h : n.natAbs < 10 ^ 60) : PySem.intText? (strOf n) = some n := by
  have hl := strOf_len h
  cases n with
  | ofNat m =>
    have e := intText_digits (x := strOf (Int.ofNat m)) (by rw [str_nat, digits_cps]; exact digits_ok m) (by rw [str_nat, digits_cps]; exact digits_ne m) (by omega)
    rw [e, str_nat, digits_cps, KIN.val_back]
    rfl
  | negSucc m =>
    have hx : (strOf (Int.negSucc m)).cps.toList = 45 :: (Nat.toDigits 10 (m + 1)).map Char.toNat := by
      rw [str_neg, ← digits_cps, Str.ofString_eq_toList, Str.ofString_eq_toList]
      simp
    have e := intText_neg hx (digits_ok (m + 1)) (digits_ne (m + 1)) (by omega)
    rw [e, KIN.val_back]
    rfl
end
section
/- the part Turn0 -/
open PySem PySem.W PyProof.Rows PySem.Spec PySem.Calls PySem.W.X
set_option maxRecDepth 100000
set_option maxHeartbeats 400000
set_option pp.deepTerms false
set_option pp.deepTerms.threshold 8
def bodyOf : Option Stmt → List Stmt
  | some (.For _ _ b _ _) => b
  | _ => []
/-- the rows of the loop over t -/
noncomputable def turnStmts : { l : List Stmt // bodyOf (lawStmts.1[11]?) = l } := ⟨[_, _, _, _, _, _, _, _, _, _], rfl⟩
def wordOf (n : Int) : Str := Str.ofString " " ++ strOf n
def lineOf (r : List Int) : List Nat := laid (r.map wordOf)
/-- the parts of a line, in order -/
inductive Words (tps : List (Addr × Obj)) : List Value → List Int → Prop
  | nil : Words tps [] []
  | cons {vs : List Value} {r : List Int} (T : Addr) (o : Obj) (n : Int) (t u : Tok) (k : Nat) : (T, o) ∈ tps → o.cls = .type "tuple" → o.data = .seq #[.str (Str.ofString " ") t, .str (strOf n) u] k → Words tps vs r → Words tps (.ref T :: vs) (n :: r)
theorem Words.more {tps tps' : List (Addr × Obj)} {vs : List Value} {r : List Int} (h : Words tps vs r) (k : ∀ p ∈ tps, p ∈ tps') : Words tps' vs r := by
  induction h with
  | nil => exact .nil
  | cons T o n t u i hm hc hd _ ih => exact .cons T o n t u i (k _ hm) hc hd ih
theorem Words.app {tps : List (Addr × Obj)} {vs ws : List Value} {r q : List Int} (h : Words tps vs r) (h' : Words tps ws q) : Words tps (vs ++ ws) (r ++ q) := by
  induction h with
  | nil => exact h'
  | cons T o n t u i hm hc hd _ ih => exact .cons T o n t u i hm hc hd ih
theorem Words.length {tps : List (Addr × Obj)} {vs : List Value} {r : List Int} (h : Words tps vs r) : vs.length = r.length := by
  induction h with
  | nil => rfl
  | cons T o n t u i hm hc hd _ ih => simp [ih]
theorem Words.take {tps : List (Addr × Obj)} {vs : List Value} {r : List Int} (h : Words tps vs r) : ∀ k, Words tps (vs.take k) (r.take k) := by
  induction h with
  | nil => intro k; simp; exact .nil
  | cons T o n t u i hm hc hd _ ih =>
    intro k
    cases k with
    | zero => exact .nil
    | succ k => exact .cons T o n t u i hm hc hd (ih k)
theorem Words.drop {tps : List (Addr × Obj)} {vs : List Value} {r : List Int} (h : Words tps vs r) : ∀ k, Words tps (vs.drop k) (r.drop k) := by
  induction h with
  | nil => intro k; simp; exact .nil
  | cons T o n t u i hm hc hd hr ih =>
    intro k
    cases k with
    | zero => exact .cons T o n t u i hm hc hd hr
    | succ k => exact ih k
theorem lineOf_snoc (r : List Int) (n : Int) : lineOf (r ++ [n]) = lineOf r ++ (wordOf n).cps.toList := by
  unfold lineOf
  rw [List.map_append]
  exact laid_snoc _ _
theorem line_len {r : List Int} (h : ∀ n ∈ r, n.natAbs < 10 ^ 60) : (lineOf r).length ≤ 71 * r.length := by
  induction r with
  | nil => exact Nat.le_refl _
  | cons n r ih =>
    have h1 := strOf_len (h n (.head _))
    have h2 := ih fun x hx => h x (.tail _ hx)
    have e : lineOf (n :: r) = (wordOf n).cps.toList ++ lineOf r := by simp [lineOf, laid]
    have h3 : (wordOf n).cps.toList.length = 1 + (strOf n).length := by
      show (wordOf n).cps.toList.length = _
      rw [Array.length_toList]
      show (Str.length (Str.ofString " " ++ strOf n)) = _
      rw [Str.length_append]
      rfl
    rw [e, List.length_append, h3, List.length_cons]
    omega
theorem log_fits {n : Int} (h : n.natAbs < 10 ^ 60) : n.natAbs.log2 < 1920 := by
  by_cases h0 : n.natAbs = 0
  · rw [h0]; decide
  · exact (Nat.log2_lt h0).mpr (Nat.lt_of_lt_of_le h (by decide +kernel))
theorem allLt_ne {a : Addr} : ∀ {l : List (Addr × Obj)}, AllLt a l → ∀ p ∈ l, p.1 ≠ a
  | [], _, _, h => nomatch h
  | _ :: _, ⟨h, r⟩, p, hp => by
    rcases List.mem_cons.mp hp with rfl | hp
    · exact Nat.ne_of_lt h
    · exact allLt_ne r p hp
theorem nc' {a : Addr} {l : List (Addr × Obj)} {x : Addr × Obj} (h : x.1 ≠ a) (r : ∀ p ∈ l, p.1 ≠ a) : ∀ p ∈ x :: l, p.1 ≠ a := nc h r
theorem na {a : Addr} {l k : List (Addr × Obj)} (h : ∀ p ∈ l, p.1 ≠ a) (r : ∀ p ∈ k, p.1 ≠ a) : ∀ p ∈ l ++ k, p.1 ≠ a := fun p hp => by
  rcases List.mem_append.mp hp with hp | hp
  · exact h p hp
  · exact r p hp
end
section
/- the part Turn1 -/
open PySem PySem.W PyProof.Rows PySem.Spec PySem.Calls PySem.W.X
set_option maxRecDepth 100000
set_option maxHeartbeats 400000
set_option pp.deepTerms false
set_option pp.deepTerms.threshold 8
section
variable {w : World} {A : Around} {s : Shared} {E : Value → Shared → Prop} {h₀ : Heap} {L : Addr} {m : Str → Option Value}
theorem add_new {h h' : Heap} {a : Addr} {o : Obj} {news : List (Addr × Obj)} (hk : ∀ b o, h.get? b = some o → h'.get? b = some o) (ha0 : h.get? a = none) (ha : h'.get? a = some o) (F : Fr h₀ L h m) (N : News h₀ L h news) :
    Fr h₀ L h' m ∧ News h₀ L h' ((a, o) :: news) ∧ (∀ p ∈ news, p.1 ≠ a) := by
  obtain ⟨F', N'⟩ := kept_frame hk F N
  refine ⟨F', fun p hp => ?_, fun p hp e => ?_⟩
  · rcases List.mem_cons.mp hp with rfl | hp
    · refine ⟨ha, ?_, ?_⟩
      · rintro rfl
        obtain ⟨oL, _, _, hL, _⟩ := F.ns
        rw [ha0] at hL; cases hL
      · cases q : h₀.get? a with
        | none => rfl
        | some o' => have := F.keep _ _ q; rw [ha0] at this; cases this
    · exact N' p hp
  · have := (N p hp).1
    rw [e, ha0] at this; cases this
theorem acc_look_push (w : World) (tk : Tok) : (lookIn "push" (accDict w tk)).map (·.isSome) = some false := rfl
theorem acc_look_append (w : World) (tk : Tok) : (lookIn "append" (accDict w tk)).map (·.isSome) = some false := rfl
theorem acc_look_pop (w : World) (tk : Tok) : (lookIn "pop_from" (accDict w tk)).map (·.isSome) = some false := rfl
theorem acc_look_count (w : World) (tk : Tok) : (lookIn "part_count" (accDict w tk)).map (·.isSome) = some false := rfl
def clsIs (v : Value) : Option Obj → Prop
  | some o => o.cls = v
  | none => False
theorem fn_looks {h : Heap} {f : Addr} (X : (hk.heap_1 w.params).In h) (hf : clsIs (.type "function") ((hk.heap_1 w.params).lookup f)) : Looks (model PR w) h (typeOf (.ref f)) (.type "function") := by
  cases e : (hk.heap_1 w.params).lookup f with
  | none => rw [e] at hf; exact hf.elim
  | some o =>
    rw [e] at hf
    have hf' : o.cls = .type "function" := hf
    rw [← hf']
    exact (Looks.ld (X _ _ e)).andThen .now
theorem str_known {n : Int} {t : Tok} {Q : Value → Shared → Prop} (hn : n.natAbs < 10 ^ 60) (h : ∀ t' tk', Q (.str (strOf n) t') { s with toks := tk' }) : wpAny (model PR w) A (call (.type "str") [.int n t]) Q E s :=
  P.str_of_int (log_fits hn) (h _ _)
theorem add_known {x y z : Str} {t u : Tok} {Q : Value → Shared → Prop} (e : x ++ y = z) (G : Gnd w s.heap) (hroom : A.depth < recursionLimit) (hsz : x.length + y.length ≤ sizeLine)
    (h : ∀ t', Kept s Yes (Q (.str z t'))) : wpAny (model PR w) A (call (.ref 45) [.str x t, .str y u]) Q E s := by
  subst e
  exact add_text G hroom hsz h
theorem line_cat (r : List Int) (n : Int) : (⟨(lineOf r).toArray⟩ : Str) ++ wordOf n = ⟨(lineOf (r ++ [n])).toArray⟩ := by
  rw [lineOf_snoc]
  show (⟨(lineOf r).toArray ++ (wordOf n).cps⟩ : Str) = _
  congr 1
  apply Array.ext'
  simp
theorem line_fit {r : List Int} {n : Int} {k : Nat} (h : (lineOf r).length ≤ 71 * k) (hk : k ≤ 1000) (hn : n.natAbs < 10 ^ 60) : (⟨(lineOf r).toArray⟩ : Str).length + (wordOf n).length ≤ sizeLine := by
  have h1 := strOf_len hn
  have h2 : (wordOf n).length = 1 + (strOf n).length := by
    show (Str.length (Str.ofString " " ++ strOf n)) = _
    rw [Str.length_append]
    rfl
  show (lineOf r).toArray.size + _ ≤ _
  rw [List.size_toArray, h2, sizeLine_eq]
  omega
theorem new_at {h h' : Heap} {a : Addr} {o : Obj} {news : List (Addr × Obj)} (ha0 : h.get? a = none) (ha : h'.get? a = some o) (F : Fr h₀ L h m) (N : News h₀ L h' news) : News h₀ L h' ((a, o) :: news) := by
  intro p hp
  rcases List.mem_cons.mp hp with rfl | hp
  · refine ⟨ha, ?_, ?_⟩
    · rintro rfl
      obtain ⟨oL, _, _, hL, _⟩ := F.ns
      rw [ha0] at hL; cases hL
    · cases q : h₀.get? a with
      | none => rfl
      | some o' => have := F.keep _ _ q; rw [ha0] at this; cases this
  · exact N p hp
abbrev liObj (l : Addr) (i : Nat) : Obj := { cls := .type "list_iterator", data := .fields #[.ref l, .int i 0] }
theorem turn_a {Q : Flow → Shared → Prop} {Ms Ld ST R : Addr} {rv : List Value} {r : List Int} {nR : Nat} {a c t : Int} {ta tc tt : Tok} {tl : List (Addr × Obj)} (G : Gnd w h₀) (hA : A.handled = none) (hroom : A.depth + 1 < recursionLimit)
    (F : Fr h₀ L s.heap m) (hm : Knows m [("a", .int a ta), ("c", .int c tc), ("mails", .ref Ms), ("laid", .ref Ld), ("row", .ref R), ("struck", .ref ST), ("t", .int t tt)]) (N : News h₀ L s.heap ((R, listOf rv.toArray nR) :: tl))
    (hr : IntsAre rv r) (hrl : r.length ≤ 1000) (hrb : ∀ n ∈ r, n.natAbs < 10 ^ 60)
    (hfin : ∀ h' tk' m' x dx tkk vs n' tps tx, Fr h₀ L h' m' → Knows m' [("a", .int a ta), ("c", .int c tc), ("mails", .ref Ms), ("laid", .ref Ld), ("row", .ref R), ("struck", .ref ST), ("t", .int t tt), ("line", .ref x), ("text", .str ⟨(lineOf r).toArray⟩ tx)] →
      News h₀ L h' ((x, accObj dx (vs : List Value).toArray n') :: (dx, accDict w tkk) :: (R, listOf rv.toArray nR) :: (tps ++ tl)) → Words tps vs r → x ≠ dx → (∀ p ∈ (R, listOf rv.toArray nR) :: tl, p.1 ≠ x) → (∀ p ∈ (R, listOf rv.toArray nR) :: tl, p.1 ≠ dx) → (∀ p ∈ tps, p.1 ≠ x ∧ ∀ q ∈ (R, listOf rv.toArray nR) :: tl, q.1 ≠ p.1) →
      wpAny (model PR w) A (execs (turnStmts.1.drop 3) (lawEnv L)) Q Never { s with heap := h', toks := tk' }) :
    wpAny (model PR w) A (execs turnStmts.1 (lawEnv L)) Q Never s := by
  walk_at "mineFill"
  have X := G.X
  obtain ⟨p, loose, mean, mg, mb, TT⟩ := G.T
  unfold lawEnv turnStmts lawScope
  dsimp only
  replace F := hm.fr F
  iterate 5 walk1
  refine new_acc (G.keeps F.keep) (by omega) (by omega) fun x dx tkk hx0 hd0 hxd h1 tk1 hk1 ⟨hx1, hd1⟩ => ?_
  have N1 : News h₀ L h1 ((x, accObj dx #[] 0) :: (dx, accDict w tkk) :: (R, listOf rv.toArray nR) :: tl) := by
    obtain ⟨_, Na, _⟩ := add_new hk1 hx0 hx1 F N
    obtain ⟨_, Nb, _⟩ := add_new hk1 hd0 hd1 F N
    intro p hp
    rcases List.mem_cons.mp hp with rfl | hp
    · exact Na _ (.head _)
    · rcases List.mem_cons.mp hp with rfl | hp
      · exact Nb _ (.head _)
      · exact Na p (.tail _ hp)
  obtain ⟨F1, -, hxn⟩ := add_new hk1 hx0 hx1 F N
  obtain ⟨-, -, hdn⟩ := add_new hk1 hd0 hd1 F N
  clear F N hk1 hx1 hd1
  dsimp only
  iterate 6 walk1
  refine wpAny_execs_cons ?_
  refine for_ruleQ ?_ (fun _ => rfl)
  iterate 1 walk1
  dsimp only
  rename_i _ _ h3 F3 N3
  refine wpAny_pyIter_list ⟨_, (N3 (R, _) (by k_mem)).1, rfl, nR, rfl⟩ ?_
  have F4 := F3.push (liObj R 0)
  have N4 := N3.push F3 (liObj R 0)
  have kI : ∀ p ∈ ((x, accObj dx #[] 0) :: (dx, accDict w tkk) :: (R, listOf rv.toArray nR) :: tl), p.1 ≠ h3.objs.size := fun p hp => Nat.ne_of_lt (Heap.lt_size (N3 p hp).1)
  revert F4 N4 kI
  dsimp only
  generalize h3.objs.size = I
  generalize h3.push (liObj R 0) = h4
  intro F4 N4 kI
  clear F3 N3
  have kIx : x ≠ I := kI _ (.head _)
  have kId : dx ≠ I := kI _ (.tail _ (.head _))
  have kIR : R ≠ I := kI _ (.tail _ (.tail _ (.head _)))
  have kIt : ∀ p ∈ tl, p.1 ≠ I := fun p hp => kI p (.tail _ (.tail _ (.tail _ hp)))
  clear kI
  refine ⟨0, fun k s' => ∃ (i : Nat) (h' : Heap) (tk : Nat) (m : Str → Option Value) (oI : Obj) (vs : List Value) (n' : Nat) (tps : List (Addr × Obj)) (tx : Tok), s' = { s with heap := h', toks := tk } ∧ i ≤ r.length ∧ k = r.length - i ∧ oI.cls = .type "list_iterator" ∧ oI.data = .fields #[.ref R, .int i 0] ∧
    Fr h₀ L h' m ∧ Knows m [("a", .int a ta), ("c", .int c tc), ("mails", .ref Ms), ("laid", .ref Ld), ("row", .ref R), ("struck", .ref ST), ("t", .int t tt), ("line", .ref x), ("text", .str ⟨(lineOf (r.take i)).toArray⟩ tx)] ∧
    News h₀ L h' ((I, oI) :: (x, accObj dx vs.toArray n') :: (dx, accDict w tkk) :: (R, listOf rv.toArray nR) :: (tps ++ tl)) ∧ Words tps vs (r.take i) ∧ (∀ p ∈ tps, p.1 ≠ x ∧ p.1 ≠ I ∧ ∀ q ∈ (R, listOf rv.toArray nR) :: tl, q.1 ≠ p.1), r.length, Nat.zero_le _, ?_, ?_⟩
  · exact ⟨0, _, _, _, liObj R 0, [], 0, [], _, rfl, Nat.zero_le _, rfl, rfl, rfl, F4, ⟨rfl, rfl, rfl, rfl, rfl, rfl, rfl, rfl, rfl, trivial⟩, N4, .nil, fun _ h => nomatch h⟩
  · clear F4 N4
    rintro Qb k s' hQb htk ⟨i, h', tk, m, oI, vs, n', tps, tx, rfl, hi, rfl, hoc, hod, F', hm, N', hW, htp⟩
    by_cases hlt : i < r.length
    · obtain ⟨ti, hxi⟩ := hr.get i (r.getD i 0) (by rw [List.getD_eq_getElem?_getD, List.getElem?_eq_getElem hlt]; rfl)
      have hnb : (r.getD i 0).natAbs < 10 ^ 60 := hrb _ (by rw [List.getD_eq_getElem?_getD, List.getElem?_eq_getElem hlt]; exact List.getElem_mem hlt)
      have htake : r.take (i + 1) = r.take i ++ [r.getD i 0] := by rw [List.take_add_one, List.getD_eq_getElem?_getD, List.getElem?_eq_getElem hlt]; rfl
      have hlen1 := line_len (r := r.take i) fun n hn => hrb n (List.mem_of_mem_take hn)
      rw [List.length_take] at hlen1
      revert hxi hnb htake
      generalize r.getD i 0 = n
      intro hxi hnb htake
      refine wpAny_pyNext_list_item ⟨oI, (N' _ (.head _)).1, hoc, hod⟩ ⟨_, (N' (R, _) (by k_mem)).1, rfl, nR, rfl⟩ (by simpa using hxi) fun h5 hit5 hs5 => ?_
      obtain ⟨o5, ho5, hoc5, hod5⟩ := hit5
      refine owned_name ?_
      obtain ⟨F5, N5⟩ := mut_frame (fun b o hb e => (hs5.2 b hb).trans e) ho5 F' N' (.head (nc kIx (nc kId (nc kIR (na (fun p hp => (htp p hp).2.1) kIt)))))
      replace F5 := hm.fr F5
      refine wpAny_assign_Name ?_
      clear F' N' hs5
      walk1
      refine wpAny_execs_cons ?_
      iterate 3 walk1
      have Fa := ‹Fr _ _ _ _›
      have Na := ‹News _ _ _ _›
      refine acc_method (dx := dx) (vs := vs.toArray) (n := n') (v := .ref 97) ((G.keeps Fa.keep).X) (Na (x, _) (by k_mem)).1 (Na (dx, _) (by k_mem)).1 (by kernel_rfl) (by kernel_rfl) (by kernel_rfl) (fn_looks ((G.keeps Fa.keep).X) rfl) (by decide) (acc_look_push w tkk) ?_
      clear Fa Na
      dsimp only
      iterate 10 walk1
      refine str_known hnb fun t6 tk6 => ?_
      dsimp only
      iterate 2 walk1
      have Fa := ‹Fr _ _ _ _›
      have Na := ‹News _ _ _ _›
      have hvl := hW.length
      rw [List.length_take] at hvl
      refine acc_push (hb := h₀) (dx := dx) (vs := vs.toArray) (n := n') G (by omega) Fa.keep (Na (x, _) (by k_mem)).2.2 (Na (x, _) (by k_mem)).1 (Na (dx, _) (by k_mem)).1 (acc_look_append w tkk) (by rw [List.size_toArray]; omega) fun T hT0 hTx h7 tk7 hk7 hx7 hT7 => ?_
      obtain ⟨oT, hoT, hcT, kT, hdT⟩ := hT7
      rw [List.push_toArray] at hx7
      have hTI : T ≠ I := by rintro rfl; rw [(Na (_, o5) (.head _)).1] at hT0; cases hT0
      have hTn : ∀ q ∈ (R, listOf rv.toArray nR) :: tl, q.1 ≠ T := fun q hq e => by
        have hq' : q ∈ (I, o5) :: (x, accObj dx vs.toArray n') :: (dx, accDict w tkk) :: (R, listOf rv.toArray nR) :: (tps ++ tl) := by
          rcases List.mem_cons.mp hq with rfl | hq
          · exact .tail _ (.tail _ (.tail _ (.head _)))
          · exact .tail _ (.tail _ (.tail _ (.tail _ (List.mem_append_right _ hq))))
        have := (Na q hq').1
        rw [e, hT0] at this; cases this
      obtain ⟨F7, N7⟩ := mut_frame hk7 hx7 Fa (News_pick Na (l := (x, accObj dx vs.toArray n') :: (I, o5) :: (dx, accDict w tkk) :: (R, listOf rv.toArray nR) :: (tps ++ tl)) (pc (by k_mem) (pc (by k_mem) (pc (by k_mem) (pc (by k_mem) fun p hp => .tail _ (.tail _ (.tail _ (.tail _ hp))))))))
        (.head (nc (Ne.symm kIx) (nc (Ne.symm hxd) (nc (hxn _ (.head _)) (na (fun p hp => (htp p hp).1) fun p hp => hxn p (.tail _ hp))))))
      replace N7 := new_at hT0 hoT Fa N7
      replace N7 := News_pick N7 (l := (I, o5) :: (x, accObj dx (vs ++ [Value.ref T]).toArray (n' + 1)) :: (dx, accDict w tkk) :: (R, listOf rv.toArray nR) :: (((T, oT) :: tps) ++ tl)) (pc (by k_mem) (pc (by k_mem) (pc (by k_mem) (pc (by k_mem) (pc (.head _) fun p hp => .tail _ (.tail _ (.tail _ (.tail _ (.tail _ hp)))))))))
      have hW7 : Words ((T, oT) :: tps) (vs ++ [Value.ref T]) (r.take (i + 1)) := by
        rw [htake]
        exact (hW.more fun p hp => .tail _ hp).app (.cons T oT n _ _ kT (.head _) hcT hdT .nil)
      clear Fa Na
      dsimp only
      iterate 20 walk1
      have F8 := ‹Fr _ _ _ _›
      have N8 := ‹News _ _ _ _›
      have hcat : (⟨(lineOf (r.take i)).toArray⟩ : Str) ++ wordOf n = ⟨(lineOf (r.take (i + 1))).toArray⟩ := by rw [htake]; exact line_cat _ _
      refine add_known hcat (G.keeps F8.keep) (by omega) (line_fit hlen1 (by omega) hnb) fun t9 h9 tk9 hk9 _ => ?_
      obtain ⟨F9, N9⟩ := kept_frame hk9 F8 N8
      clear F8 N8
      dsimp only
      iterate 1 walk1
      refine wpAny_execs_nil ?_
      try dsimp only
      exact hQb _ ⟨_, Nat.sub_lt_sub_left hlt (Nat.lt_succ_self i), i + 1, _, _, _, o5, _, _, _, t9, rfl, hlt, rfl, hoc5, hod5, ‹Fr _ _ _ _›, ⟨rfl, rfl, rfl, rfl, rfl, rfl, rfl, rfl, rfl, trivial⟩, ‹News _ _ _ _›, hW7, fun p hp => by
        rcases List.mem_cons.mp hp with rfl | hp
        · exact ⟨hTx, hTI, hTn⟩
        · exact htp p hp⟩
    · have hie : i = r.length := by omega
      subst hie
      rw [List.take_length] at hm hW
      refine wpAny_pyNext_list_end hA ⟨oI, (N' _ (.head _)).1, hoc, hod⟩ ⟨_, (N' (R, _) (by k_mem)).1, rfl, nR, rfl⟩ (by simp [hr.length]) fun h5 hx5 => ?_
      obtain ⟨F5, N5⟩ := ext_frame hx5 (nc kIx (nc kId (nc kIR (na (fun p hp => (htp p hp).2.1) kIt)))) F' N'
      replace F5 := hm.fr F5
      clear F' N'
      unfold Over
      dsimp only
      exact hfin _ _ _ x dx tkk vs n' tps tx F5 hm.kst N5 hW hxd hxn hdn fun p hp => ⟨(htp p hp).1, (htp p hp).2.2⟩
end
end
section
/- the part Turn2 -/
open PySem PySem.W PyProof.Rows PySem.Spec PySem.Calls PySem.W.X
set_option maxRecDepth 100000
set_option maxHeartbeats 400000
set_option pp.deepTerms false
set_option pp.deepTerms.threshold 8
section
variable {w : World} {A : Around} {s : Shared} {E : Value → Shared → Prop} {h₀ : Heap} {L : Addr} {m : Str → Option Value}
theorem strs_paired : ∀ {xs ys : List Value} {ns : List Int}, IntsAre xs ns → Paired (fun v y => ∀ i t, v = Value.int i t → ∃ t', y = Value.str (wordOf i) t') xs ys → StrsAre ys (ns.map wordOf)
  | _, _, _, .nil, .nil => .nil
  | _, _, _, .cons n t h, .cons hy hr => by
    obtain ⟨t', rfl⟩ := hy n t rfl
    exact .cons _ _ (strs_paired h hr)
theorem word_fit {n : Int} (hn : n.natAbs < 10 ^ 60) : (Str.ofString " ").length + (strOf n).length ≤ sizeLine := by
  have h1 := strOf_len hn
  have h2 : (Str.ofString " ").length = 1 := rfl
  rw [h2, sizeLine_eq]
  omega
theorem join_line {D : Addr} {items : List Value} {r : List Int} {n : Nat} {t : Tok} {Q : Value → Shared → Prop} (hl : s.heap.get? D = some (listOf items.toArray n)) (hi : StrsAre items (r.map wordOf)) (hrl : r.length ≤ 1000) (hrb : ∀ n ∈ r, n.natAbs < 10 ^ 60)
    (h : ∀ t' tk', Q (.str ⟨(lineOf r).toArray⟩ t') { s with toks := tk' }) : wpAny (model PR w) A (call (.builtin "str.join") [.str (Str.ofString "") t, .ref D]) Q E s := by
  refine join_listW (ys := r.map wordOf) ⟨_, hl, rfl, n, rfl⟩ (by simpa using hi) (by show 0 ≤ 16; decide) ?_ fun t' k => ?_
  · have e := sum_len_laid (r.map wordOf)
    have h1 := line_len hrb
    rw [e, List.length_map]
    show (lineOf r).length + _ ≤ _
    omega
  · have e : Txt.join (Str.ofString "") (r.map wordOf) = ⟨(lineOf r).toArray⟩ := join_empty _
    rw [e]
    exact h _ _
theorem words_ts {h : Heap} {tps news : List (Addr × Obj)} {vs : List Value} {r : List Int} (hW : Words tps vs r) (N : News h₀ L h news) (hk : ∀ p ∈ tps, p ∈ news) :
    ∃ Ts : Nat → Addr, (∀ j, j < vs.length → vs[j]? = some (.ref (Ts j))) ∧ ∀ j, j < vs.length → ∃ t u, h.IsTuple (Ts j) #[.str ((r.map fun _ => Str.ofString " ").getD j ⟨#[]⟩) t, .str ((r.map strOf).getD j ⟨#[]⟩) u] := by
  induction hW with
  | nil => exact ⟨fun _ => 0, fun j hj => absurd hj (Nat.not_lt_zero _), fun j hj => absurd hj (Nat.not_lt_zero _)⟩
  | cons T o n t u k hm hc hd _ ih =>
    obtain ⟨Ts, h1, h2⟩ := ih
    refine ⟨fun j => match j with | 0 => T | j + 1 => Ts j, fun j hj => ?_, fun j hj => ?_⟩
    · cases j with
      | zero => rfl
      | succ j => exact h1 j (Nat.lt_of_succ_lt_succ hj)
    · cases j with
      | zero => exact ⟨t, u, o, (N _ (hk _ hm)).1, hc, k, hd⟩
      | succ j => exact h2 j (Nat.lt_of_succ_lt_succ hj)
theorem words_text {r : List Int} {n : Nat} (hn : n = r.length) : laid ((List.range n).map fun j => (r.map fun _ => Str.ofString " ").getD j ⟨#[]⟩ ++ (r.map strOf).getD j ⟨#[]⟩) = lineOf r := by
  subst hn
  unfold lineOf
  congr 1
  apply List.ext_getElem
  · simp
  · intro i h1 h2
    have h3 : i < r.length := by simpa using h1
    simp [List.getD_eq_getElem?_getD, h3, wordOf]
theorem words_few {r : List Int} (hrb : ∀ n ∈ r, n.natAbs < 10 ^ 60) (j : Nat) : ((r.map fun _ => Str.ofString " ").getD j ⟨#[]⟩).length + ((r.map strOf).getD j ⟨#[]⟩).length ≤ 1000 := by
  rw [List.getD_eq_getElem?_getD, List.getD_eq_getElem?_getD, List.getElem?_map, List.getElem?_map]
  cases e : r[j]? with
  | none => decide
  | some n =>
    have h1 := strOf_len (hrb n (List.mem_of_getElem? e))
    show (Str.ofString " ").length + (strOf n).length ≤ 1000
    have h2 : (Str.ofString " ").length = 1 := rfl
    omega
theorem str_ne_self (x : Str) : (x != x) = false := by simp [bne]
theorem turn_b {Q : Flow → Shared → Prop} {Ms Ld ST R x dx : Addr} {rv vs : List Value} {r : List Int} {nR n' : Nat} {a c t : Int} {ta tc tt tx tkk : Tok} {tps tl : List (Addr × Obj)} {ps : Array Value} (G : Gnd w h₀) (hA : A.handled = none) (hroom : A.depth + 4 < recursionLimit) (hun : A.units ≤ 2000)
    (C : CodeHd h₀ 126 122) (hB : AllBare s.gens) (hps : TriplesOk ps.toList)
    (F : Fr h₀ L s.heap m) (hm : Knows m [("a", .int a ta), ("c", .int c tc), ("mails", .ref Ms), ("laid", .ref Ld), ("row", .ref R), ("struck", .ref ST), ("t", .int t tt), ("line", .ref x), ("text", .str ⟨(lineOf r).toArray⟩ tx)])
    (N : News h₀ L s.heap ((122, tabObj ps) :: (x, accObj dx vs.toArray n') :: (dx, accDict w tkk) :: (R, listOf rv.toArray nR) :: (tps ++ tl)))
    (hW : Words tps vs r) (hr : IntsAre rv r) (hrl : r.length ≤ 1000) (hrb : ∀ n ∈ r, n.natAbs < 10 ^ 60)
    (h122 : ∀ p ∈ (x, accObj dx vs.toArray n') :: (dx, accDict w tkk) :: (R, listOf rv.toArray nR) :: (tps ++ tl), p.1 ≠ 122)
    (hfin : ∀ h' g' d' tk' m' ps', AllBare g' → TriplesOk (ps' : Array Value).toList → Fr h₀ L h' m' → Knows m' [("a", .int a ta), ("c", .int c tc), ("mails", .ref Ms), ("laid", .ref Ld), ("struck", .ref ST), ("t", .int t tt), ("line", .ref x)] →
      News h₀ L h' ((122, tabObj ps') :: (x, accObj dx vs.toArray n') :: (dx, accDict w tkk) :: (R, listOf rv.toArray nR) :: (tps ++ tl)) → wpAny (model PR w) A (execs (turnStmts.1.drop 5) (lawEnv L)) Q Never ⟨h', g', d', tk', s.os⟩) :
    wpAny (model PR w) A (execs (turnStmts.1.drop 3) (lawEnv L)) Q Never s := by
  walk_at "mineFill"
  have X := G.X
  obtain ⟨p, loose, mean, mg, mb, TT⟩ := G.T
  unfold lawEnv turnStmts lawScope
  simp only [List.drop]
  replace F := hm.fr F
  iterate 9 walk1
  refine comp_list (fun v y => ∀ i t, v = Value.int i t → ∃ t', y = Value.str (wordOf i) t') hA ⟨_, (N (R, _) (by k_mem)).1, rfl, nR, rfl⟩ F N ?gelt ?gfin (by rw [hr.length, sizeLine_eq]; omega)
  case gelt =>
    intro C v t m₂ E' hv hk hns hm2
    obtain ⟨j, hj⟩ := List.getElem?_of_mem hv
    obtain ⟨ti, rfl⟩ := intsAre_get hr hj
    have hjl : j < r.length := by
      rw [← hr.length]
      exact (List.getElem?_eq_some_iff.mp hj).1
    have hnb : (r.getD j 0).natAbs < 10 ^ 60 := hrb _ (by rw [List.getD_eq_getElem?_getD, List.getElem?_eq_getElem hjl]; exact List.getElem_mem hjl)
    obtain ⟨h5, g5, d5, t5, o5⟩ := t
    have T4 := TT.keeps fun b o e => hk b o (F.keep b o e)
    have hgs : mg "str" = none := ns_none_of X TT.g (by kernel_rfl)
    have hbs : mb "str" = some (.type "str") := (TT.builtins _ (by decide)).trans boot_str
    iterate 3 walk1
    refine Name_function_global rfl rfl (loadGlobal_builtin T4.g hgs T4.b hbs ?_) (by decide)
    iterate 2 walk1
    refine wpAny_Name (wpAny_loadName_local (by rfl) (by rfl) hns hm2 ?_) (by decide)
    iterate 1 walk1
    refine str_known hnb fun t6 tk6 => ?_
    refine add_str (fun te tk => ⟨fun i t e => by cases e; exact ⟨_, rfl⟩, _, _, rfl, fun _ _ e => e⟩) (word_fit hnb)
  case gfin =>
    intro D ys n5 h5 tk5 F5 N5 hD hP
    have hD122 := hD (122, tabObj ps) (.head _)
    clear F N hD
    iterate 1 walk1
    refine join_line (N5 (D, _) (by k_mem)).1 (strs_paired hr hP) hrl hrb fun t7 tk7 => ?_
    dsimp only
    iterate 12 walk1
    have F8 := ‹Fr _ _ _ _›
    have N8 := ‹News _ _ _ _›
    refine kso_call (C := 153) (f := 127) (ox := accObj dx vs.toArray n') (od := some (accDict w tkk)) ?hu (G.keeps F8.keep).X ⟨(N8 (x, _) (by k_mem)).1, rfl, rfl, (N8 (dx, _) (by k_mem)).1⟩ (by kernel_rfl) (by kernel_rfl) ?_
    case hu =>
      rw [units_in1, units_in1]
      show _ < 9900
      omega
    obtain ⟨Ts, hT1, hT2⟩ := words_ts hW N8 fun p hp => .tail _ (.tail _ (.tail _ (.tail _ (.tail _ (List.mem_append_left _ hp)))))
    refine acc_text (dx := dx) (items := vs.toArray) (n := n') (od := accDict w tkk) (hb := h₀) Ts G C (by show A.depth + 2 < _; omega) hA F8.keep (N8 (122, _) (by k_mem)).2.2 ⟨ps, (N8 (122, _) (by k_mem)).1, hps⟩ hB (N8 (x, _) (by k_mem)).1 (by simpa using hT1) (by simpa using hT2) (words_few hrb) (by rw [List.size_toArray, hW.length]; omega) fun t9 h9 tk9 g9 d9 hk9 hT9 hB9 => ?_
    obtain ⟨ps9, hp9, hps9⟩ := hT9
    have hsz9 : vs.toArray.size = r.length := by rw [List.size_toArray, hW.length]
    rw [words_text hsz9]
    obtain ⟨F9, N9⟩ := mut_frame hk9 hp9 F8 (News_pick N8 (l := (122, tabObj ps) :: (x, accObj dx vs.toArray n') :: (dx, accDict w tkk) :: (R, listOf rv.toArray nR) :: (tps ++ tl)) fun p hp => .tail _ hp) (.head h122)
    clear F8 N8
    unfold StrBack
    dsimp only
    iterate 2 walk1
    rw [str_ne_self]
    iterate 7 walk1
    rw [str_ne_self]
    iterate 5 walk1
    dsimp only
    exact hfin _ _ _ _ _ ps9 hB9 hps9 ‹Fr _ _ _ _› ⟨rfl, rfl, rfl, rfl, rfl, rfl, rfl, trivial⟩ ‹News _ _ _ _›
end
end
section
/- the part ZipTL -/
open PySem PySem.W PyProof.Rows PySem.Spec PySem.Calls PySem.W.X
set_option maxRecDepth 100000
section
variable {w : World} {A : Around} {E : Value → Shared → Prop} {s : Shared}
/-- the draw of a tuple's iterator inside a built-in -/
theorem draw_tup {it t : Addr} {i : Nat} {items : Array Value} {x : Value} {Q : Value → Shared → Prop} (hit : s.heap.IsTupleIter it t i) (ht : s.heap.IsTuple t items) (hx : items[i]? = some x)
    (hQ : ∀ h', h'.IsTupleIter it t (i + 1) → Heap.SameBut it s.heap h' → Q x { s with heap := h' }) :
    wpAny (model PR w) A (Builtin.SmallTypes.nextOf (.ref it)) Q E s := by
  obtain ⟨o, ho, hc, hd⟩ := id hit
  obtain ⟨ot, hot, _, nt, hdt⟩ := ht
  unfold Builtin.SmallTypes.nextOf
  refine wpAny_bind (wpAny_callSpecial?_slot (name := Str.ofString "__next__") hit.typeIs PySem.F.slot_tuple_iterator_next
    (wpAny_call_entry PySem.F.slot_tuple_iterator_next hit.typeIs PySem.F.entry_tuple_iterator_next ?_ (PySem.F.args_tuple_iterator_next_1 _)))
  show wpAny _ _ (field (.ref it) 0 >>= _) _ _ s
  refine wpAny_bind (wpAny_field ho hd (x := .ref t) rfl ?_)
  show wpAny _ _ (if (Value.ref t == Value.none) = true then _ else _) _ _ s
  rw [if_neg (show ¬ ((Value.ref t == Value.none) = true) from Bool.false_ne_true)]
  show wpAny _ _ (field (.ref it) 1 >>= _) _ _ s
  refine wpAny_bind (wpAny_field ho hd (x := .int i 0) rfl ?_)
  show wpAny _ _ (seqItems? (.ref t) >>= _) _ _ s
  refine wpAny_bind (wpAny_seqItems hot hdt ?_)
  simp only [Int.toNat_natCast, hx]
  refine wpAny_bind (wpAny_setField ho hd (by simp) (wpAny_pure ⟨x, rfl, wpAny_pure (hQ _ ?_ (Heap.SameBut.update ..))⟩))
  exact ⟨_, Heap.get?_update_self _ ho (Obj.isFreed_of_fields (Obj.data_mapFields hd _)), (Obj.cls_mapFields ..).trans hc, by
    rw [Obj.data_mapFields hd]; simp [rawInt]⟩
theorem draw_tup_end {it t : Addr} {i : Nat} {items : Array Value} {Q : Value → Shared → Prop} (hh : A.handled = none) (hit : s.heap.IsTupleIter it t i) (ht : s.heap.IsTuple t items) (hx : items[i]? = none)
    (hE : ∀ h' e, Heap.ExtBut it s.heap h' → (∃ o, h'.get? e = some o ∧ o.cls = .type "StopIteration") → E (.ref e) { s with heap := h' }) :
    wpAny (model PR w) A (Builtin.SmallTypes.nextOf (.ref it)) Q E s := by
  obtain ⟨o, ho, hc, hd⟩ := id hit
  obtain ⟨ot, hot, _, nt, hdt⟩ := ht
  unfold Builtin.SmallTypes.nextOf
  refine wpAny_bind (wpAny_callSpecial?_slot (name := Str.ofString "__next__") hit.typeIs PySem.F.slot_tuple_iterator_next
    (wpAny_call_entry PySem.F.slot_tuple_iterator_next hit.typeIs PySem.F.entry_tuple_iterator_next ?_ (PySem.F.args_tuple_iterator_next_1 _)))
  show wpAny _ _ (field (.ref it) 0 >>= _) _ _ s
  refine wpAny_bind (wpAny_field ho hd (x := .ref t) rfl ?_)
  show wpAny _ _ (if (Value.ref t == Value.none) = true then _ else _) _ _ s
  rw [if_neg (show ¬ ((Value.ref t == Value.none) = true) from Bool.false_ne_true)]
  show wpAny _ _ (field (.ref it) 1 >>= _) _ _ s
  refine wpAny_bind (wpAny_field ho hd (x := .int i 0) rfl ?_)
  show wpAny _ _ (seqItems? (.ref t) >>= _) _ _ s
  refine wpAny_bind (wpAny_seqItems hot hdt ?_)
  simp only [Int.toNat_natCast, hx]
  refine wpAny_bind (wpAny_rule (wpAny_bind (wpAny_setField ho hd (by simp) ?_)))
  show wpAny _ _ (newExc (.type "StopIteration") [] >>= _) _ _ _
  refine wpAny_bind ?_
  simp only [newExc, newTuple]
  refine wpAny_bind (wpAny_newObj_type ?_ (by size_fits))
  refine wpAny_bind (m := firstArgMember _ _) (wpAny_of_eq (a := Value.none) (by first | rfl | (simp only [firstArgMember]; rfl)) ?_)
  refine wpAny_newObj_type ?_ (by size_fits)
  simp only [raiseNew]
  refine wpAny_bind (wpAny_handled ?_)
  first | rw [show A.in1.handled = none from hh] | rw [hh]
  refine wpAny_bind (wpAny_pure (wpAny_throw ?_))
  exact hE _ _ (((Heap.SameBut.update ..).extBut.push _).push _) ⟨_, Heap.get?_push_size _ rfl, rfl⟩

/-- a zip of a tuple and a list, i items drawn -/
structure ZipTL (h : Heap) (z TI TO i1 i2 l1 l2 : Addr) (f0 : Value) (xs ys : Array Value) (i : Nat) : Prop where
  z : IsZip h z TI TO f0
  ti : IsPair h TI (.ref i1) (.ref i2)
  out : ∃ a b, IsPair h TO a b
  it1 : h.IsTupleIter i1 l1 i
  it2 : h.IsListIter i2 l2 i
  s1 : h.IsTuple l1 xs
  s2 : h.IsList l2 ys
theorem ZipTL.frame {h h' : Heap} {z TI TO i1 i2 l1 l2 : Addr} {f0 : Value} {xs ys : Array Value} {i : Nat} (Z : ZipTL h z TI TO i1 i2 l1 l2 f0 xs ys i)
    (k : ∀ b ∈ [z, TI, TO, i1, i2, l1, l2], ∀ o, h.get? b = some o → h'.get? b = some o) : ZipTL h' z TI TO i1 i2 l1 l2 f0 xs ys i where
  z := k z (by simp) _ Z.z
  ti := k TI (by simp) _ Z.ti
  out := let ⟨a, b, e⟩ := Z.out; ⟨a, b, k TO (by simp) _ e⟩
  it1 := let ⟨o, e, r⟩ := Z.it1; ⟨o, k i1 (by simp) _ e, r⟩
  it2 := let ⟨o, e, r⟩ := Z.it2; ⟨o, k i2 (by simp) _ e, r⟩
  s1 := let ⟨o, e, r⟩ := Z.s1; ⟨o, k l1 (by simp) _ e, r⟩
  s2 := let ⟨o, e, r⟩ := Z.s2; ⟨o, k l2 (by simp) _ e, r⟩
theorem tup_ext {h h' : Heap} {a b : Addr} {items : Array Value} (x : h.IsTuple a items) (hs : Heap.ExtBut b h h') (n : a ≠ b) : h'.IsTuple a items := x.extBut hs n

theorem ztl_body {z TI TO i1 i2 l1 l2 : Addr} {k : Nat} {xs ys : Array Value} {x y : Value} {Q : Value → Shared → Prop} (D : ZipApart z TI TO i1 i2 l1 l2) (Z : ZipTL s.heap z TI TO i1 i2 l1 l2 .none xs ys k) (hx : xs[k]? = some x) (hy : ys[k]? = some y)
    (hQ : ∀ h', ZipTL h' z TI TO i1 i2 l1 l2 (rawInt s.heap.objs.size) xs ys (k + 1) → IsPair h' s.heap.objs.size x y →
      (∀ c o, c ≠ z → c ≠ TO → c ≠ i1 → c ≠ i2 → s.heap.get? c = some o → h'.get? c = some o) → Q (.ref s.heap.objs.size) { s with heap := h' }) :
    wpAny (model PR w) A (Builtin.«zip.__next__» ⟨[.ref z], []⟩) (fun fin s' => ∃ v, fin = .done (.ret v) ∧ Q v s') E s := by
  obtain ⟨hz, hTI, ⟨a, b, hTO⟩, h1, h2, hl1, hl2⟩ := Z
  show wpAny _ _ (field (.ref z) 2 >>= _) _ _ _
  refine wpAny_bind (wpAny_field hz rfl (x := .bool false) rfl ?_)
  show wpAny _ _ (field (.ref z) 3 >>= _) _ _ _
  refine wpAny_bind (wpAny_field hz rfl (x := .ref TI) rfl ?_)
  refine wpAny_bind (wpAny_seqItems hTI rfl ?_)
  show wpAny _ _ (Builtin.SmallTypes.ownedTupleIsFree (.ref z) >>= _) _ _ _
  refine wpAny_bind ?_
  unfold Builtin.SmallTypes.ownedTupleIsFree
  refine wpAny_bind (wpAny_field hz rfl (x := .none) rfl (wpAny_pure ?_))
  simp only [if_true]
  refine wpAny_bind (wpAny_rule ?_)
  refine wpAny_bind (wpAny_field hz rfl (x := .ref TO) rfl ?_)
  refine wpAny_bind (wpAny_setField_rec hz (by simp) fun h₁ hz₁ hs₁ => ?_)
  replace hz₁ : IsZip h₁ z TI TO .ellipsis := hz₁
  refine wpAny_bind ?_
  simp only [List.zipIdx_cons, List.zipIdx_nil, List.forIn_cons, List.forIn_nil]
  refine wpAny_bind (wpAny_bind (wpAny_onRaise ?_))
  show wpAny _ _ (Builtin.SmallTypes.nextOf (.ref i1) >>= _) _ _ _
  refine wpAny_bind (draw_tup (h1.extBut hs₁.extBut D.i1z) (hl1.extBut hs₁.extBut D.l1z) hx fun h₂ h1₂ hs₂ => wpAny_pure ?_)
  have hTO₂ : IsPair h₂ TO a b := hs₂.extBut _ _ D.TOi1 (hs₁.extBut _ _ D.TOz hTO)
  refine wpAny_bind (wpAny_seqItems hTO₂ rfl ?_)
  refine wpAny_bind (wpAny_updateSeq_pair hTO₂ fun h₃ hTO₃ hs₃ => ?_)
  replace hTO₃ : IsPair h₃ TO x b := hTO₃
  refine wpAny_bind (wpAny_letGo (wpAny_pure ?_))
  refine wpAny_bind (wpAny_bind (wpAny_onRaise ?_))
  show wpAny _ _ (Builtin.SmallTypes.nextOf (.ref i2) >>= _) _ _ _
  refine wpAny_bind (wpAny_nextOf_list_item (((h2.extBut hs₁.extBut D.i2z).extBut hs₂.extBut D.i12.symm).extBut hs₃.extBut D.TOi2.symm)
    (((hl2.extBut hs₁.extBut D.l2z).extBut hs₂.extBut D.l2i1).extBut hs₃.extBut D.l2TO) hy fun h₄ h2₄ hs₄ => wpAny_pure ?_)
  have hTO₄ : IsPair h₄ TO x b := hs₄.extBut _ _ D.TOi2 hTO₃
  refine wpAny_bind (wpAny_seqItems hTO₄ rfl ?_)
  refine wpAny_bind (wpAny_updateSeq_pair hTO₄ fun h₅ hTO₅ hs₅ => ?_)
  replace hTO₅ : IsPair h₅ TO x y := hTO₅
  refine wpAny_bind (wpAny_letGo (wpAny_pure (wpAny_pure ?_)))
  refine wpAny_bind (wpAny_seqItems hTO₅ rfl ?_)
  refine wpAny_bind (wpAny_newTuple ?_)
  have hsz : h₅.objs.size = s.heap.objs.size := by rw [hs₅.1, hs₄.1, hs₃.1, hs₂.1, hs₁.1]
  have hz₅ : IsZip h₅ z TI TO .ellipsis := hs₅.extBut _ _ D.TOz.symm (hs₄.extBut _ _ D.i2z.symm (hs₃.extBut _ _ D.TOz.symm (hs₂.extBut _ _ D.i1z.symm hz₁)))
  have hk₅ : ∀ c o, c ≠ z → c ≠ TO → c ≠ i1 → c ≠ i2 → s.heap.get? c = some o → h₅.get? c = some o := fun c o c1 c2 c3 c4 e =>
    hs₅.extBut _ _ c2 (hs₄.extBut _ _ c4 (hs₃.extBut _ _ c2 (hs₂.extBut _ _ c3 (hs₁.extBut _ _ c1 e))))
  have h1₅ : h₅.IsTupleIter i1 l1 (k + 1) := ((h1₂.extBut hs₃.extBut D.TOi1.symm).extBut hs₄.extBut D.i12).extBut hs₅.extBut D.TOi1.symm
  have h2₅ : h₅.IsListIter i2 l2 (k + 1) := h2₄.extBut hs₅.extBut D.TOi2.symm
  have hzlt : z < h₅.objs.size := Heap.lt_size hz₅
  show wpAny _ _ (Builtin.SmallTypes.ownedTupleHandOut (.ref z) (.ref h₅.objs.size) >>= _) _ _ _
  refine wpAny_bind ?_
  unfold Builtin.SmallTypes.ownedTupleHandOut
  have hz₆ : IsZip (h₅.push { cls := .type "tuple", data := .seq #[x, y] }) z TI TO .ellipsis := Heap.get?_push_of_some _ hz₅
  refine wpAny_bind (wpAny_setField_rec hz₆ (by simp) fun h₇ hz₇ hs₇ => ?_)
  replace hz₇ : IsZip h₇ z TI TO (rawInt h₅.objs.size) := hz₇
  refine wpAny_setField_rec hz₇ (by simp) fun h₈ hz₈ hs₈ => ?_
  replace hz₈ : IsZip h₈ z TI TO (rawInt h₅.objs.size) := hz₈
  have up : ∀ c o, c ≠ z → h₅.get? c = some o → h₈.get? c = some o := fun c o c1 e => hs₈.extBut _ _ c1 (hs₇.extBut _ _ c1 (Heap.get?_push_of_some _ e))
  have hT₈ : IsPair h₈ h₅.objs.size x y := hs₈.extBut _ _ (Nat.ne_of_gt hzlt) (hs₇.extBut _ _ (Nat.ne_of_gt hzlt) (Heap.get?_push_size _ rfl))
  rw [hsz] at hz₈ hT₈
  refine wpAny_pure ⟨_, rfl, ?_⟩
  show Q (.ref h₅.objs.size) _
  rw [hsz]
  have all : ∀ c o, c ≠ z → c ≠ TO → c ≠ i1 → c ≠ i2 → s.heap.get? c = some o → h₈.get? c = some o := fun c o c1 c2 c3 c4 e => up c o c1 (hk₅ c o c1 c2 c3 c4 e)
  refine hQ h₈ ⟨hz₈, all _ _ D.TIz D.TITO D.TIi1 D.TIi2 hTI, ⟨_, _, up _ _ D.TOz hTO₅⟩, ?_, h2₅.at fun o e => up _ o D.i2z e, ?_, ?_⟩ hT₈ all
  · obtain ⟨o, e, r⟩ := h1₅; exact ⟨o, up _ _ D.i1z e, r⟩
  · obtain ⟨o, e, r⟩ := hl1; exact ⟨o, all _ _ D.l1z D.l1TO D.l1i1 D.l1i2 e, r⟩
  · exact hl2.at fun o e => all _ o D.l2z D.l2TO D.l2i1 D.l2i2 e

theorem ztl_stop {z TI TO i1 i2 l1 l2 : Addr} {k : Nat} {xs ys : Array Value} {Q : Fin → Shared → Prop} (hh : A.handled = none) (D : ZipApart z TI TO i1 i2 l1 l2) (Z : ZipTL s.heap z TI TO i1 i2 l1 l2 .none xs ys k) (hend : xs[k]? = none ∨ ys[k]? = none)
    (hE : ∀ h' e, (∀ c o, c ≠ z → c ≠ TO → c ≠ i1 → c ≠ i2 → s.heap.get? c = some o → h'.get? c = some o) → (∃ o, h'.get? e = some o ∧ o.cls = .type "StopIteration") → E (.ref e) { s with heap := h' }) :
    wpAny (model PR w) A (Builtin.«zip.__next__» ⟨[.ref z], []⟩) Q E s := by
  obtain ⟨hz, hTI, ⟨a, b, hTO⟩, h1, h2, hl1, hl2⟩ := Z
  show wpAny _ _ (field (.ref z) 2 >>= _) _ _ _
  refine wpAny_bind (wpAny_field hz rfl (x := .bool false) rfl ?_)
  show wpAny _ _ (field (.ref z) 3 >>= _) _ _ _
  refine wpAny_bind (wpAny_field hz rfl (x := .ref TI) rfl ?_)
  refine wpAny_bind (wpAny_seqItems hTI rfl ?_)
  show wpAny _ _ (Builtin.SmallTypes.ownedTupleIsFree (.ref z) >>= _) _ _ _
  refine wpAny_bind ?_
  unfold Builtin.SmallTypes.ownedTupleIsFree
  refine wpAny_bind (wpAny_field hz rfl (x := .none) rfl (wpAny_pure ?_))
  simp only [if_true]
  refine wpAny_bind (wpAny_rule ?_)
  refine wpAny_bind (wpAny_field hz rfl (x := .ref TO) rfl ?_)
  refine wpAny_bind (wpAny_setField_rec hz (by simp) fun h₁ hz₁ hs₁ => ?_)
  replace hz₁ : IsZip h₁ z TI TO .ellipsis := hz₁
  refine wpAny_bind ?_
  simp only [List.zipIdx_cons, List.zipIdx_nil, List.forIn_cons, List.forIn_nil]
  refine wpAny_bind (wpAny_bind (wpAny_onRaise ?_))
  show wpAny _ _ (Builtin.SmallTypes.nextOf (.ref i1) >>= _) _ _ _
  cases hx : xs[k]? with
  | none =>
    refine wpAny_bind (draw_tup_end hh (h1.extBut hs₁.extBut D.i1z) (hl1.extBut hs₁.extBut D.l1z) hx fun h₂ e hs₂ he => ?_)
    obtain ⟨oe, hoe, hce⟩ := he
    have hz₂ : IsZip h₂ z TI TO .ellipsis := hs₂ _ _ D.i1z.symm hz₁
    have hez : e ≠ z := fun x => by subst x; rw [hz₂] at hoe; cases hoe; simp at hce
    refine wpAny_setField_rec hz₂ (by simp) fun h₃ _ hs₃ => hE h₃ e (fun c o c1 _ c3 _ x => hs₃.extBut _ _ c1 (hs₂ _ _ c3 (hs₁.extBut _ _ c1 x))) ⟨oe, hs₃.extBut _ _ hez hoe, hce⟩
  | some x =>
    have hy : ys[k]? = none := by rcases hend with h | h; rw [hx] at h; cases h; exact h
    refine wpAny_bind (draw_tup (h1.extBut hs₁.extBut D.i1z) (hl1.extBut hs₁.extBut D.l1z) hx fun h₂ h1₂ hs₂ => wpAny_pure ?_)
    have hTO₂ : IsPair h₂ TO a b := hs₂.extBut _ _ D.TOi1 (hs₁.extBut _ _ D.TOz hTO)
    refine wpAny_bind (wpAny_seqItems hTO₂ rfl ?_)
    refine wpAny_bind (wpAny_updateSeq_pair hTO₂ fun h₃ hTO₃ hs₃ => ?_)
    refine wpAny_bind (wpAny_letGo (wpAny_pure ?_))
    refine wpAny_bind (wpAny_bind (wpAny_onRaise ?_))
    show wpAny _ _ (Builtin.SmallTypes.nextOf (.ref i2) >>= _) _ _ _
    refine wpAny_bind (wpAny_nextOf_list_end hh (((h2.extBut hs₁.extBut D.i2z).extBut hs₂.extBut D.i12.symm).extBut hs₃.extBut D.TOi2.symm)
      (((hl2.extBut hs₁.extBut D.l2z).extBut hs₂.extBut D.l2i1).extBut hs₃.extBut D.l2TO) hy fun h₄ e hs₄ he => ?_)
    obtain ⟨oe, hoe, hce⟩ := he
    have hz₄ : IsZip h₄ z TI TO .ellipsis := hs₄ _ _ D.i2z.symm (hs₃.extBut _ _ D.TOz.symm (hs₂.extBut _ _ D.i1z.symm hz₁))
    have hez : e ≠ z := fun x => by subst x; rw [hz₄] at hoe; cases hoe; simp at hce
    refine wpAny_setField_rec hz₄ (by simp) fun h₅ _ hs₅ => hE h₅ e (fun c o c1 c2 c3 c4 x => hs₅.extBut _ _ c1 (hs₄ _ _ c4 (hs₃.extBut _ _ c2 (hs₂.extBut _ _ c3 (hs₁.extBut _ _ c1 x))))) ⟨oe, hs₅.extBut _ _ hez hoe, hce⟩

theorem ztl_item {z TI TO i1 i2 l1 l2 : Addr} {k : Nat} {xs ys : Array Value} {x y : Value} {Q : Option Value → Shared → Prop} (D : ZipApart z TI TO i1 i2 l1 l2) (Z : ZipTL s.heap z TI TO i1 i2 l1 l2 .none xs ys k) (hx : xs[k]? = some x) (hy : ys[k]? = some y)
    (hQ : ∀ h', ZipTL h' z TI TO i1 i2 l1 l2 (rawInt s.heap.objs.size) xs ys (k + 1) → IsPair h' s.heap.objs.size x y →
      (∀ c o, c ≠ z → c ≠ TO → c ≠ i1 → c ≠ i2 → s.heap.get? c = some o → h'.get? c = some o) → Q (some (.ref s.heap.objs.size)) { s with heap := h' }) :
    wpAny (model PR w) A (pyNext (.ref z)) Q E s := by
  have hT : s.TypeIs (.ref z) "zip" := ⟨_, Z.z, rfl⟩
  unfold pyNext
  exact wpAny_bind (wpAny_attempt (wpAny_callSpecial?_slot (name := Str.ofString "__next__") hT PySem.F.slot_zip_next
    (wpAny_call_entry PySem.F.slot_zip_next hT PySem.F.entry_zip_next
      (ztl_body D Z hx hy fun h' a1 a2 a3 => wpAny_pure (hQ h' a1 a2 a3)) (PySem.F.args_zip_next_1 _))))
theorem ztl_end {z TI TO i1 i2 l1 l2 : Addr} {k : Nat} {xs ys : Array Value} {Q : Option Value → Shared → Prop} (hh : A.handled = none) (D : ZipApart z TI TO i1 i2 l1 l2) (Z : ZipTL s.heap z TI TO i1 i2 l1 l2 .none xs ys k) (hend : xs[k]? = none ∨ ys[k]? = none)
    (hQ : ∀ h', (∀ c o, c ≠ z → c ≠ TO → c ≠ i1 → c ≠ i2 → s.heap.get? c = some o → h'.get? c = some o) → Q none { s with heap := h' }) : wpAny (model PR w) A (pyNext (.ref z)) Q E s := by
  have hT : s.TypeIs (.ref z) "zip" := ⟨_, Z.z, rfl⟩
  unfold pyNext
  refine wpAny_bind (wpAny_attempt (wpAny_callSpecial?_slot (name := Str.ofString "__next__") hT PySem.F.slot_zip_next
    (wpAny_call_entry PySem.F.slot_zip_next hT PySem.F.entry_zip_next (ztl_stop hh D Z hend fun h' e hk he => ?_) (PySem.F.args_zip_next_1 _))))
  obtain ⟨o, ho, hc⟩ := he
  refine wpAny_bind (wpAny_isInstance (T := "StopIteration") (b := true) ⟨o, ho, hc⟩ isSubtype_stop ?_)
  exact wpAny_pure (hQ _ hk)
theorem ztl_go {elts : List Expr} {x1} {pos : Pos} {z TI TO i1 i2 l1 l2 T : Addr} {k : Nat} {xs ys : Array Value} {Q : Unit → Shared → Prop} (D : ZipApart z TI TO i1 i2 l1 l2) (Z : ZipTL s.heap z TI TO i1 i2 l1 l2 (rawInt T) xs ys k)
    (hQ : ∀ h', ZipTL h' z TI TO i1 i2 l1 l2 .none xs ys k → Heap.SameBut z s.heap h' → Q () { s with heap := h' }) :
    wpAny (model PR w) A (letOwnedTupleGo (.Tuple elts x1 pos) (.ref z) (.ref T)) Q E s := by
  refine wpAny_letOwnedTupleGo_zip Z.z fun h' hz' hs' => hQ h' ⟨hz', hs'.extBut _ _ D.TIz Z.ti, ?_, Z.it1.extBut hs'.extBut D.i1z, Z.it2.extBut hs'.extBut D.i2z, Z.s1.extBut hs'.extBut D.l1z, Z.s2.extBut hs'.extBut D.l2z⟩ hs'
  obtain ⟨a, b, e⟩ := Z.out
  exact ⟨a, b, hs'.extBut _ _ D.TOz e⟩
abbrev ztlHeap (h : Heap) (l1 l2 : Addr) : Heap := ((((h.push (tiObj l1 0)).push (liObj l2 0)).push { cls := .type "tuple", data := .seq #[.ref h.objs.size, .ref (h.objs.size + 1)] }).push { cls := .type "tuple", data := .seq #[.none, .none] }).push { cls := .type "zip", data := .fields #[.none, .bool false, .bool false, .ref (h.objs.size + 2), .ref (h.objs.size + 3)] }
theorem meets_ztl (l1 l2 : Addr) (xs ys : Array Value) :
    Meets (Builtin.«zip.__new__» ⟨[.type "zip", .ref l1, .ref l2], []⟩) (fun _ R s => s.heap.IsTuple l1 xs ∧ s.heap.IsList l2 ys ∧
      R (.ok (.ret (.ref (s.heap.objs.size + 4)))) { s with heap := ztlHeap s.heap l1 l2 }) :=
  .of_wp fun prog w A R s h => by
    obtain ⟨hp, g, d, tk, os⟩ := s; obtain ⟨hl1, hl2, h⟩ := h
    have hsub := sub_zip
    have hL1 : Heap.IsTuple (Shared.heap ⟨hp, g, d, tk, os⟩) l1 xs := hl1
    have hL2 : Heap.IsList (Shared.heap ⟨hp.push { cls := .type "tuple_iterator", data := .fields #[.ref l1, .int 0 0] }, g, d, tk, os⟩) l2 ys := Heap.IsList.push hl2 _
    wp_walk using wpAny_pyIter_tuple hL1, wpAny_pyIter_list hL2
    simp only [Heap.size_push]
    exact ⟨_, rfl, h⟩
theorem call_ztl {l1 l2 : Addr} {xs ys : Array Value} {Q : Value → Shared → Prop} (hl1 : s.heap.IsTuple l1 xs) (hl2 : s.heap.IsList l2 ys)
    (h : ∀ h', ZipTL h' (s.heap.objs.size + 4) (s.heap.objs.size + 2) (s.heap.objs.size + 3) s.heap.objs.size (s.heap.objs.size + 1) l1 l2 .none xs ys 0 →
      (∀ c o, s.heap.get? c = some o → h'.get? c = some o) → Q (.ref (s.heap.objs.size + 4)) { s with heap := h' }) :
    wpAny (model PR w) A (call (.type "zip") [.ref l1, .ref l2]) Q E s := by
  refine callType_new PySem.F.called_zip (by decide) (PySem.F.typeCall_zip_2 _ _) (PySem.F.newCall_zip_2 _ _) (fun obj => PySem.F.args_object_init_3 obj _ _) PySem.F.entry_zip_new
    (meets_ztl l1 l2 xs ys) ⟨hl1, hl2, ?_⟩
  have k5 : ∀ c o, s.heap.get? c = some o → (ztlHeap s.heap l1 l2).get? c = some o := fun c o x =>
    Heap.get?_push_of_some _ (Heap.get?_push_of_some _ (Heap.get?_push_of_some _ (Heap.get?_push_of_some _ (Heap.get?_push_of_some _ x))))
  have at_ : ∀ (g : Heap) (o : Obj) (n : Nat), g.objs.size = n → o.isFreed = false → (g.push o).get? n = some o := fun g o n e f => e ▸ Heap.get?_push_size _ f
  have g5 := at_ ((((s.heap.push (tiObj l1 0)).push (liObj l2 0)).push { cls := .type "tuple", data := .seq #[.ref s.heap.objs.size, .ref (s.heap.objs.size + 1)] }).push { cls := .type "tuple", data := .seq #[.none, .none] })
    { cls := .type "zip", data := .fields #[.none, .bool false, .bool false, .ref (s.heap.objs.size + 2), .ref (s.heap.objs.size + 3)] } (s.heap.objs.size + 4) (by simp only [Heap.size_push]) rfl
  refine ⟨⟨_, g5, rfl⟩, h _ ⟨g5, ?_, ⟨.none, .none, ?_⟩, ⟨tiObj l1 0, ?_, rfl, rfl⟩, ⟨liObj l2 0, ?_, rfl, rfl⟩, ?_, hl2.at fun o e => k5 _ o e⟩ k5⟩
  · exact Heap.get?_push_of_some _ (Heap.get?_push_of_some _ (at_ _ _ _ (by simp only [Heap.size_push]) rfl))
  · exact Heap.get?_push_of_some _ (at_ _ _ _ (by simp only [Heap.size_push]) rfl)
  · exact Heap.get?_push_of_some _ (Heap.get?_push_of_some _ (Heap.get?_push_of_some _ (Heap.get?_push_of_some _ (at_ _ _ _ rfl rfl))))
  · exact Heap.get?_push_of_some _ (Heap.get?_push_of_some _ (Heap.get?_push_of_some _ (at_ _ _ _ (by simp only [Heap.size_push]) rfl)))
  · obtain ⟨o, e, r⟩ := hl1; exact ⟨o, k5 _ _ e, r⟩
end
end
section
/- the part Turn3 -/
open PySem PySem.W PyProof.Rows PySem.Spec PySem.Calls PySem.W.X
set_option maxRecDepth 100000
set_option maxHeartbeats 400000
set_option pp.deepTerms false
set_option pp.deepTerms.threshold 8
section
variable {w : World} {A : Around} {s : Shared} {E : Value → Shared → Prop} {h₀ : Heap} {L : Addr} {m : Str → Option Value}
theorem item_sub {value slice : Expr} {l : Addr} {items : Array Value} {k : Int} {u : Tok} {v : Value} {Q : Value → Shared → Prop} (hl : s.heap.IsList l items) (h0 : 0 ≤ k) (hfit : k < 2 ^ 63) (hx : items[k.toNat]? = some v) (h : Q v s)
    (hs : subscripted slice false (.ref l) (.int k u) = operate [.ref l, .int k u] (getItem (.ref l) (.int k u)) := by with_unfolding_all rfl) :
    wpAny (model PR w) A (subscriptTail value slice (.ref l) (.int k u)) Q E s :=
  tail_any hl.typeIs slot_list_getitem.lookup (wpAny_getItem_list hl h0 hfit hx h) hs
/-- rows and their texts -/
theorem turn_c {Q : Flow → Shared → Prop} {Ms Ld ST x : Addr} {Mv : List Value} {nM tn : Nat} {mail : List Nat} {RL : List Str} {a c : Int} {ta tc tt tmm : Tok} {tl : List (Addr × Obj)} (G : Gnd w h₀) (hA : A.handled = none) (hroom : A.depth + 4 < recursionLimit)
    (F : Fr h₀ L s.heap m) (hm : Knows m [("a", .int a ta), ("c", .int c tc), ("mails", .ref Ms), ("laid", .ref Ld), ("struck", .ref ST), ("t", .int (tn : Int) tt), ("line", .ref x)])
    (N : News h₀ L s.heap ((Ms, listOf Mv.toArray nM) :: tl)) (htn : tn ≤ 100) (hmail : Mv[tn]? = some (.str ⟨mail.toArray⟩ tmm)) (hml : mail.length ≤ 40000)
    (hsp : Txt.split ⟨mail.toArray⟩ (Str.ofString "\r\n") = RL)
    (hfin : ∀ h' tk' m' R RW rwv, Fr h₀ L h' m' → Knows m' [("a", .int a ta), ("c", .int c tc), ("mails", .ref Ms), ("laid", .ref Ld), ("struck", .ref ST), ("t", .int (tn : Int) tt), ("line", .ref x), ("row", .ref R), ("rows", .ref RW)] →
      News h₀ L h' ((RW, listOf (rwv : List Value).toArray 0) :: (R, listOf #[] 0) :: (Ms, listOf Mv.toArray nM) :: tl) → StrsAre rwv RL → (R < RW ∧ Ms < R ∧ AllLt R tl) → wpAny (model PR w) A (execs (turnStmts.1.drop 7) (lawEnv L)) Q Never { s with heap := h', toks := tk' }) :
    wpAny (model PR w) A (execs (turnStmts.1.drop 5) (lawEnv L)) Q Never s := by
  walk_at "mineFill"
  have X := G.X
  obtain ⟨p, loose, mean, mg, mb, TT⟩ := G.T
  unfold lawEnv turnStmts lawScope
  simp only [List.drop]
  replace F := hm.fr F
  iterate 12 walk1
  rename_i R hr1 lR hr2 F1 N1
  refine item_sub ⟨_, (N1 (Ms, _) (by k_mem)).1, rfl, nM, rfl⟩ (by omega) (by omega) (by rw [List.getElem?_toArray]; exact hmail) ?_
  iterate 5 walk1
  have hle : (Str.length ⟨mail.toArray⟩) + 2 ≤ sizeLine := by show mail.toArray.size + 2 ≤ _; rw [List.size_toArray, sizeLine_eq]; omega
  refine KSpl.split1 F1 N1 (by decide) (fun RW l h' k e a' F' N' l1 => ?_) hle
  rw [e, hsp] at a'
  clear F1 N1
  dsimp only
  iterate 2 walk1
  exact hfin _ _ _ R RW (strValues l) ‹Fr _ _ _ _› ⟨rfl, rfl, rfl, rfl, rfl, rfl, rfl, rfl, rfl, trivial⟩ ‹News _ _ _ _› a' ⟨l1 (R, _) (.head _), lR⟩
end
end
section
/- the part Round1 -/
open PySem PySem.W PyProof.Rows PySem.Spec PySem.Calls PySem.W.X
set_option maxRecDepth 100000
set_option maxHeartbeats 400000
set_option pp.deepTerms false
set_option pp.deepTerms.threshold 8
/-- the rows of the loop over i and signs -/
noncomputable def roundStmts : { l : List Stmt // bodyOf (turnStmts.1[7]?) = l } := ⟨[_, _, _, _, _, _, _, _], rfl⟩
/-- w dots and one more, and an x -/
def sgn (wd : Nat) : Str := ⟨(List.replicate (wd + 1) 46 ++ [120]).toArray⟩
theorem sgn_ascii (n : Nat) : (sgn n).cps.all (· < 128) = true := by
  unfold sgn
  rw [List.all_toArray, List.all_append, List.all_eq_true.mpr]
  · rfl
  · intro c hc
    rw [List.eq_of_mem_replicate hc]
    rfl
theorem sgn_count (n : Nat) : (sgn n).cps.toList.count 46 = n + 1 := by
  show (List.replicate (n + 1) 46 ++ [120]).toArray.toList.count 46 = _
  simp [List.count_append]
section
variable {w : World} {A : Around} {s : Shared} {E : Value → Shared → Prop} {h₀ : Heap} {L : Addr} {m : Str → Option Value}
theorem count_known {n : Nat} {t u : Nat} {Q : Value → Shared → Prop} (G : Gnd w s.heap) (hroom : A.depth < recursionLimit) (hA : A.handled = none) (h0 : 0 < u) (hu : u < s.toks)
    (h : ∀ t', Kept s Yes (Q (.int ((n : Int) + 1) t'))) : wpAny (model PR w) A (call (.ref 66) [.str (sgn n) t, .str (Str.ofString ".") u]) Q E s := by
  have e : Str.ofString "." = ⟨#[46]⟩ := by kernel_rfl
  rw [e]
  refine count_text G hroom hA (sgn_ascii n) h0 hu fun t' => ?_
  rw [sgn_count]
  exact h t'
def someObj : Option Obj → Prop
  | some _ => True
  | none => False
theorem not_153 {x : Addr} (X : (hk.heap_1 w.params).In h₀) (h : h₀.get? x = none) : x ≠ 153 := by
  rintro rfl
  have q : someObj ((hk.heap_1 w.params).lookup 153) := trivial
  cases e : (hk.heap_1 w.params).lookup 153 with
  | none => rw [e] at q; exact q
  | some o => rw [X _ _ e] at h; cases h
theorem round_a {Q : Flow → Shared → Prop} {Ms Ld ST x dx R RW : Addr} {vs : List Value} {n' wd : Nat} {a c t i : Int} {ta tc tt ti ts tkk : Tok} {tl : List (Addr × Obj)} (G : Gnd w h₀) (hA : A.handled = none) (hroom : A.depth + 4 < recursionLimit) (htok : 0 < s.toks)
    (F : Fr h₀ L s.heap m) (hm : Knows m [("a", .int a ta), ("c", .int c tc), ("mails", .ref Ms), ("laid", .ref Ld), ("struck", .ref ST), ("t", .int t tt), ("line", .ref x), ("row", .ref R), ("rows", .ref RW), ("i", .int i ti), ("signs", .str (sgn wd) ts)])
    (N : News h₀ L s.heap ((x, accObj dx vs.toArray n') :: (dx, accDict w tkk) :: tl)) (hxn : ∀ p ∈ tl, p.1 ≠ x) (hxd : x ≠ dx) (hvs : vs.length ≤ 1000) (hwd : wd ≤ vs.length)
    (hfin : ∀ h' tk' m' TK n5, Fr h₀ L h' m' → Knows m' [("a", .int a ta), ("c", .int c tc), ("mails", .ref Ms), ("laid", .ref Ld), ("struck", .ref ST), ("t", .int t tt), ("line", .ref x), ("row", .ref R), ("rows", .ref RW), ("i", .int i ti), ("signs", .str (sgn wd) ts), ("taken", .ref TK)] →
      News h₀ L h' ((x, accObj dx (vs.take (vs.length - wd)).toArray n5) :: (TK, listOf (vs.drop (vs.length - wd)).toArray 0) :: (dx, accDict w tkk) :: tl) → TK ≠ x → wpAny (model PR w) A (execs (roundStmts.1.drop 2) (lawEnv L)) Q Never { s with heap := h', toks := tk' }) :
    wpAny (model PR w) A (execs roundStmts.1 (lawEnv L)) Q Never s := by
  walk_at "mineFill"
  have X := G.X
  obtain ⟨p, loose, mean, mg, mb, TT⟩ := G.T
  unfold lawEnv roundStmts lawScope
  dsimp only
  replace F := hm.fr F
  iterate 15 walk1
  refine count_known (G.keeps F.keep) (by omega) hA htok (Nat.lt_succ_self _) fun t1 h1 tk1 hk1 _ => ?_
  obtain ⟨F1, N1⟩ := kept_frame hk1 F N
  clear F N hk1
  dsimp only
  iterate 4 walk1
  refine sub_int (G.keeps F1.keep) (by omega) fun t2 h2 tk2 hk2 _ => ?_
  obtain ⟨F2, N2⟩ := kept_frame hk2 F1 N1
  have ew : ((wd : Int) + 1 - 1) = (wd : Int) := by omega
  rw [ew]
  clear F1 N1 hk2
  dsimp only
  iterate 6 walk1
  have Fa := ‹Fr _ _ _ _›
  have Na := ‹News _ _ _ _›
  refine acc_method (dx := dx) (vs := vs.toArray) (n := n') (v := .ref 105) ((G.keeps Fa.keep).X) (Na (x, _) (by k_mem)).1 (Na (dx, _) (by k_mem)).1 (by kernel_rfl) (by kernel_rfl) (by kernel_rfl) (fn_looks ((G.keeps Fa.keep).X) rfl) (by decide) (acc_look_pop w tkk) ?_
  clear Fa Na
  dsimp only
  iterate 8 walk1
  have Fa := ‹Fr _ _ _ _›
  have Na := ‹News _ _ _ _›
  refine acc_method (dx := dx) (vs := vs.toArray) (n := n') (v := .ref 150) ((G.keeps Fa.keep).X) (Na (x, _) (by k_mem)).1 (Na (dx, _) (by k_mem)).1 (by kernel_rfl) (by kernel_rfl) (by kernel_rfl) (fn_looks ((G.keeps Fa.keep).X) rfl) (by decide) (acc_look_count w tkk) ?_
  clear Fa Na
  dsimp only
  iterate 1 walk1
  have Fa := ‹Fr _ _ _ _›
  have Na := ‹News _ _ _ _›
  refine acc_count (dx := dx) (vs := vs.toArray) (n := n') (G.keeps Fa.keep) (by omega) (Na (x, _) (by k_mem)).1 (Na (dx, _) (by k_mem)).1 (not_153 X (Na (x, _) (by k_mem)).2.2) fun t3 h3 tk3 hk3 _ => ?_
  obtain ⟨F3, N3⟩ := kept_frame hk3 Fa Na
  clear Fa Na hk3
  dsimp only
  iterate 4 walk1
  refine sub_int (G.keeps F3.keep) (by omega) fun t4 h4 tk4 hk4 _ => ?_
  obtain ⟨F4, N4⟩ := kept_frame hk4 F3 N3
  have ek : ((vs.toArray.size : Nat) : Int) - (wd : Int) = ((vs.length - wd : Nat) : Int) := by rw [List.size_toArray]; omega
  rw [ek]
  clear F3 N3 hk4
  dsimp only
  iterate 2 walk1
  refine acc_pop (hb := h₀) (dx := dx) G (by omega) F4.keep (N4 (x, _) (by k_mem)).2.2 (N4 (x, _) (by k_mem)).1 (N4 (dx, _) (by k_mem)).1 (acc_look_append w tkk) (by omega) (Nat.sub_le _ _) fun TK n5 hT0 hTx h5 tk5 hk5 hx5 hT5 => ?_
  obtain ⟨F5, N5⟩ := mut_frame hk5 hx5 F4 N4 (.head (nc (Ne.symm hxd) hxn))
  replace N5 := new_at hT0 hT5 F4 N5
  clear F4 N4 hk5
  dsimp only
  iterate 2 walk1
  have F6 := ‹Fr _ _ _ _›
  have N6 := ‹News _ _ _ _›
  exact hfin _ _ _ TK n5 F6 ⟨rfl, rfl, rfl, rfl, rfl, rfl, rfl, rfl, rfl, rfl, rfl, rfl, trivial⟩ (News_pick N6 (l := (x, accObj dx (vs.take (vs.length - wd)).toArray n5) :: (TK, listOf (vs.drop (vs.length - wd)).toArray 0) :: (dx, accDict w tkk) :: tl) (pc (by k_mem) (pc (by k_mem) (pc (by k_mem) fun p hp => .tail _ (.tail _ (.tail _ hp))))))
    hTx
end
end
section
/- the part Round2 -/
open PySem PySem.W PyProof.Rows PySem.Spec PySem.Calls PySem.W.X
set_option maxRecDepth 100000
set_option maxHeartbeats 400000
set_option pp.deepTerms false
set_option pp.deepTerms.threshold 8
section
variable {w : World} {A : Around} {s : Shared} {E : Value → Shared → Prop} {h₀ : Heap} {L : Addr} {m : Str → Option Value}
theorem str_ofString_ok (x : String) : PyData.strOk (Str.ofString x) = true := by
  unfold PyData.strOk
  rw [Str.ofString_eq_toList, List.all_toArray, List.all_eq_true]
  intro c hc
  obtain ⟨ch, _, rfl⟩ := List.mem_map.mp hc
  have := ch.valid
  simp only [decide_eq_true_eq]
  show ch.val.toNat < _
  rcases this with h | ⟨_, h⟩
  · have : ch.val.toNat < 0xd800 := h
    omega
  · exact h
def pairData (n : Int) : PyData := .tuple [.str (Str.ofString " "), .str (strOf n)]
def pairsData (r : List Int) : PyData := .list (r.map pairData)
theorem pairs_shaped (r : List Int) : SeqAt.shaped (pairsData r) = true := by
  have h1 : PyData.canLayAll0 (r.map pairData) = true := by
    induction r with
    | nil => rfl
    | cons n r ih =>
      rw [List.map_cons, PyData.canLayAll0, ih]
      simp [pairData, PyData.canLay0, PyData.canLayAll0, str_ofString_ok, strOf]
  have h2 : PyData.depthAll (r.map pairData) ≤ 1 := by
    induction r with
    | nil => exact Nat.zero_le _
    | cons n r ih =>
      have h1' : PyData.canLayAll0 (r.map pairData) = true := by
        rw [List.map_cons, PyData.canLayAll0, Bool.and_eq_true] at h1
        exact h1.2
      rw [List.map_cons, PyData.depthAll]
      have e : PyData.depth (pairData n) = 1 := by simp [pairData, PyData.depth, PyData.depthAll]
      rw [e]
      exact Nat.max_le.mpr ⟨Nat.le_refl _, ih h1'⟩
  unfold SeqAt.shaped pairsData
  rw [PyData.canLay0, h1, PyData.depth, Bool.true_and]
  exact decide_eq_true (by omega)
theorem pairs_self (r : List Int) : PyData.eqv (pairsData r) (pairsData r) = true := by
  unfold pairsData
  rw [PyData.eqv]
  induction r with
  | nil => rfl
  | cons n r ih =>
    rw [List.map_cons, PyData.eqvAll, ih]
    simp [pairData, PyData.eqv, PyData.eqvAll]
theorem reads_words {h : Heap} {tps news : List (Addr × Obj)} {vs : List Value} {r : List Int} (hW : Words tps vs r) (N : News h₀ L h news) (hk : ∀ p ∈ tps, p ∈ news) : ReadsAll h vs (r.map pairData) [] := by
  induction hW with
  | nil => exact .nil
  | cons T o n t u k hm hc hd _ ih =>
    have e : ([] : List Addr) = [] ++ [] := rfl
    rw [e]
    refine .cons (.tuple (xs := [.str (Str.ofString " "), .str (strOf n)]) (N _ (hk _ hm)).1 hc hd ?_) ih
    exact .cons (bs := []) (.str _ _) (.cons (bs := []) (.str _ _) .nil)
theorem dots_x (n : Nat) : Txt.mul (Str.ofString ".") ((n : Int) + 1) ++ Str.ofString "x" = sgn n := by
  have e : Str.ofString "." = ⟨#[46]⟩ := by kernel_rfl
  have e2 : Str.ofString "x" = ⟨#[120]⟩ := by kernel_rfl
  have e3 : Txt.mul (Str.ofString ".") ((n : Int) + 1) = ⟨(List.replicate (n + 1) 46).toArray⟩ := by
    rw [e]
    unfold Txt.mul
    rw [if_neg (by omega)]
    have fold : ∀ (k : Nat) (acc : Array Nat), (List.replicate k #[46]).foldl (· ++ ·) acc = acc ++ (List.replicate k 46).toArray := by
      intro k
      induction k with
      | zero => intro acc; simp
      | succ k ih =>
        intro acc
        rw [List.replicate_succ, List.foldl_cons, ih, List.replicate_succ]
        apply Array.ext'
        simp
    split
    · rename_i h1
      simp only [Bool.or_eq_true, beq_iff_eq] at h1
      rcases h1 with h1 | h1
      · have : n = 0 := by omega
        subst this; rfl
      · exact absurd h1 (by decide)
    · have e4 : ((n : Int) + 1).toNat = n + 1 := by omega
      rw [e4, fold]
      simp
  rw [e3, e2]
  show (⟨(List.replicate (n + 1) 46).toArray ++ #[120]⟩ : Str) = _
  unfold sgn
  congr 1
  apply Array.ext'
  simp
theorem words_vals {h : Heap} {tps news : List (Addr × Obj)} {vs : List Value} {r : List Int} (hW : Words tps vs r) (N : News h₀ L h news) (hk : ∀ p ∈ tps, p ∈ news) :
    ∃ (Ts : Nat → Addr) (vals : Nat → Array Value), (∀ j, j < vs.length → vs[j]? = some (.ref (Ts j))) ∧ (∀ j, j < vs.length → h.IsTuple (Ts j) (vals j)) ∧ (∀ j, j < vs.length → ∃ t u, vals j = #[.str (Str.ofString " ") t, .str (strOf (r.getD j 0)) u]) := by
  induction hW with
  | nil => exact ⟨fun _ => 0, fun _ => #[], fun j hj => absurd hj (Nat.not_lt_zero _), fun j hj => absurd hj (Nat.not_lt_zero _), fun j hj => absurd hj (Nat.not_lt_zero _)⟩
  | cons T o n t u k hm hc hd _ ih =>
    obtain ⟨Ts, vals, h1, h2, h3⟩ := ih
    refine ⟨fun j => match j with | 0 => T | j + 1 => Ts j, fun j => match j with | 0 => #[.str (Str.ofString " ") t, .str (strOf n) u] | j + 1 => vals j, fun j hj => ?_, fun j hj => ?_, fun j hj => ?_⟩
    · cases j with
      | zero => rfl
      | succ j => exact h1 j (Nat.lt_of_succ_lt_succ hj)
    · cases j with
      | zero => exact ⟨o, (N _ (hk _ hm)).1, hc, k, hd⟩
      | succ j => exact h2 j (Nat.lt_of_succ_lt_succ hj)
    · cases j with
      | zero => exact ⟨t, u, rfl⟩
      | succ j => exact h3 j (Nat.lt_of_succ_lt_succ hj)
/-- a pair made by a comprehension -/
def PairAt (r : List Int) (b : Nat) (i : Nat) (y : Value) (h : Heap) : Prop := ∃ (T : Addr) (o : Obj) (t u : Tok) (k : Nat), y = .ref T ∧ b < T ∧ h.get? T = some o ∧ o.cls = .type "tuple" ∧ o.data = .seq #[.str (Str.ofString " ") t, .str (strOf (r.getD i 0)) u] k
theorem PairAt.mono {r : List Int} {b i : Nat} {y : Value} {h h' : Heap} (x : PairAt r b i y h) (k : ∀ c o, b < c → h.get? c = some o → h'.get? c = some o) : PairAt r b i y h' := by
  obtain ⟨T, o, t, u, n, e, hb, ho, r⟩ := x
  exact ⟨T, o, t, u, n, e, hb, k _ _ hb ho, r⟩
theorem reads_pairs {h : Heap} : ∀ {ys : List Value} {r : List Int} {b : Nat}, ys.length = r.length → (∀ j y, ys[j]? = some y → PairAt r b j y h) → ReadsAll h ys (r.map pairData) []
  | [], [], _, _, _ => .nil
  | [], _ :: _, _, e, _ => by cases e
  | _ :: _, [], _, e, _ => by cases e
  | y :: ys, n :: r, b, e, hp => by
    obtain ⟨T, o, t, u, k, rfl, _, ho, hc, hd⟩ := hp 0 y rfl
    have e' : ([] : List Addr) = [] ++ [] := rfl
    rw [e']
    refine .cons (.tuple (xs := [.str (Str.ofString " "), .str (strOf n)]) ho hc hd (.cons (bs := []) (.str _ _) (.cons (bs := []) (.str _ _) .nil))) (reads_pairs (b := b) (Nat.succ.inj e) fun j y e => ?_)
    obtain ⟨T, o, t, u, k, rfl, hb, ho, hc, hd⟩ := hp (j + 1) y e
    exact ⟨T, o, t, u, k, rfl, hb, ho, hc, hd⟩
theorem round_b {Q : Flow → Shared → Prop} {Ms Ld ST x R RW TK : Addr} {tv Lv : List Value} {la blk : List Int} {nL wd j : Nat} {a c t : Int} {ta tc tt ti ts : Tok} {tps tl : List (Addr × Obj)} (G : Gnd w h₀) (hA : A.handled = none) (hroom : A.depth + 4 < recursionLimit) (hun : A.units ≤ 2000)
    (F : Fr h₀ L s.heap m) (hm : Knows m [("a", .int a ta), ("c", .int c tc), ("mails", .ref Ms), ("laid", .ref Ld), ("struck", .ref ST), ("t", .int t tt), ("line", .ref x), ("row", .ref R), ("rows", .ref RW), ("i", .int (3 - (j : Int)) ti), ("signs", .str (sgn wd) ts), ("taken", .ref TK)])
    (N : News h₀ L s.heap ((TK, listOf tv.toArray 0) :: (Ld, listOf Lv.toArray nL) :: tl)) (hW : Words tps tv blk) (hps : ∀ p ∈ tps, p ∈ tl) (hLv : IntsAre Lv la) (hj : j < la.length) (hj4 : j < 4) (hla : t + 2 - la.getD j 0 = (wd : Int) + 1) (hbl : blk.length ≤ 1000) (hrb : ∀ n ∈ blk, n.natAbs < 10 ^ 60) (hwd : wd ≤ 1000)
    (hfin : ∀ h' tk' m', Fr h₀ L h' m' → Knows m' [("a", .int a ta), ("c", .int c tc), ("mails", .ref Ms), ("laid", .ref Ld), ("struck", .ref ST), ("t", .int t tt), ("line", .ref x), ("row", .ref R), ("rows", .ref RW), ("i", .int (3 - (j : Int)) ti), ("signs", .str (sgn wd) ts), ("taken", .ref TK)] →
      News h₀ L h' ((TK, listOf tv.toArray 0) :: (Ld, listOf Lv.toArray nL) :: tl) → wpAny (model PR w) A (execs (roundStmts.1.drop 3) (lawEnv L)) Q Never { s with heap := h', toks := tk' }) :
    wpAny (model PR w) A (execs (roundStmts.1.drop 2) (lawEnv L)) Q Never s := by
  walk_at "mineFill"
  have X := G.X
  obtain ⟨p, loose, mean, mg, mb, TT⟩ := G.T
  unfold lawEnv roundStmts lawScope
  simp only [List.drop]
  replace F := hm.fr F
  iterate 20 walk1
  have ej : (3 - (3 - (j : Int))).toNat = j := by omega
  rw [ej]
  iterate 1 walk1
  rw [hla]
  dsimp only
  iterate 3 walk1
  rw [dots_x]
  dsimp only
  iterate 1 walk1
  rw [str_ne_self]
  iterate 5 walk1
  refine ListComp_pairsH (by rfl) (by decide) (by rfl) (by decide) (by rfl) (by rfl) (by decide) hA ?_
  iterate 1 walk1
  dsimp only
  have hTK : s.heap.IsList TK tv.toArray := ⟨_, (N (TK, _) (by k_mem)).1, rfl, 0, rfl⟩
  refine wpAny_pyIter_list hTK ?_
  obtain ⟨Ts, vals, hit, htup, hval⟩ := words_vals hW N fun p hp => .tail _ (.tail _ (hps p hp))
  have hTlt : ∀ j, j < tv.length → Ts j < s.heap.objs.size := fun j hj => by obtain ⟨o, e, _⟩ := htup j hj; exact Heap.lt_size e
  have hTKlt : TK < s.heap.objs.size := Heap.lt_size (N (TK, _) (by k_mem)).1
  have hI : (s.heap.push (liObj TK 0)).get? s.heap.objs.size = some (liObj TK 0) := Heap.get?_push_size _ rfl
  refine ⟨s.heap.objs.size, _, _, _, _, _, _, PairAt blk ((s.heap.push (liObj TK 0)).objs.size + 1), rfl, ⟨WalksU.bound (WalksU.listOfTuples (prog := PR) (w := w) hA s.heap.objs.size TK (Nat.ne_of_lt hTKlt) tv.toArray Ts vals (fun j hj => by rw [List.getElem?_toArray]; exact hit j (by simpa using hj)) (fun j hj => Nat.ne_of_lt (hTlt j (by simpa using hj)))), ?two, ?few, ?mono, ?start, ?low, ?elt⟩, ?fin⟩
  case two =>
    rintro i vs' ⟨hi, rfl⟩
    obtain ⟨u1, u2, e⟩ := hval i (by simpa using hi)
    exact ⟨_, _, e⟩
  case few => rw [List.size_toArray, hW.length]; omega
  case mono => exact fun i y h h' x k => x.mono k
  case start =>
    refine ⟨⟨_, hI, rfl, rfl⟩, hTK.push _, fun k hk => ?_⟩
    obtain ⟨o, e, r⟩ := htup k (by simpa using hk)
    exact ⟨o, Heap.get?_push_of_some _ e, r⟩
  case low =>
    intro b hb
    show b < (s.heap.push _).objs.size
    rw [Heap.size_push]
    rcases List.mem_cons.mp hb with rfl | hb
    · exact Nat.lt_succ_self _
    · rcases List.mem_cons.mp hb with rfl | hb
      · exact Nat.lt_succ_of_lt hTKlt
      · obtain ⟨j, hj, rfl⟩ := List.mem_map.mp hb
        exact Nat.lt_succ_of_lt (hTlt j (by simpa using hj))
  case elt =>
    intro C E' i va vb t' m₂ hi' hC hP hnC hma hmb hkt
    obtain ⟨u1, u2, e⟩ := hval i (by simpa using hi')
    obtain ⟨rfl, rfl⟩ : va = _ ∧ vb = _ := by simpa using hP.2.trans e
    obtain ⟨h5, g5, d5, t5, o5⟩ := t'
    iterate 4 walk1
    refine wpAny_Name (wpAny_loadName_local (by rfl) (by rfl) hnC hmb ?_) (by decide)
    iterate 1 walk1
    refine wpAny_newTuple ?_
    exact ⟨⟨_, _, _, _, 0, rfl, Nat.lt_of_le_of_lt hC hnC.lt, Heap.get?_push_size _ rfl, rfl, rfl⟩, _, _, rfl, fun b o e => Heap.get?_push_of_some _ e⟩
  case fin =>
    intro D h' tk' ys hD hpl hsy hF hk'
    obtain ⟨F8, N8⟩ := kept_frame (fun b o e => hk' b o (by simpa using Nat.ne_of_lt (Heap.lt_size e)) (Heap.get?_push_of_some _ e)) F N
    obtain ⟨nD, hpl⟩ := hpl
    have R1 : Reads h' (.ref TK) (pairsData blk) [TK] := .list (N8 (TK, _) (by k_mem)).1 rfl rfl (reads_words hW N8 fun p hp => .tail _ (.tail _ (hps p hp)))
    have R2 : Reads h' (.ref D) (pairsData blk) [D] := .list hpl rfl rfl (reads_pairs (b := (s.heap.push (liObj TK 0)).objs.size + 1) (by rw [Array.length_toList, hsy, List.size_toArray, hW.length]) fun j y e => hF j y (by simpa using e))
    clear F N
    refine SeqAt.compareNe_shaped R1 R2 (pairs_shaped _) (pairs_shaped _) (by show _ < 9900; omega) ?_
    rw [pairs_self]
    dsimp only [Bool.not_true]
    iterate 5 walk1
    dsimp only
    exact hfin _ _ _ F8 hm.kst N8
end
end
section
/- the part Round3 -/
open PySem PySem.W PyProof.Rows PySem.Spec PySem.Calls PySem.W.X
set_option maxRecDepth 100000
set_option maxHeartbeats 400000
set_option pp.deepTerms false
set_option pp.deepTerms.threshold 8
section
variable {w : World} {A : Around} {s : Shared} {E : Value → Shared → Prop} {h₀ : Heap} {L : Addr} {m : Str → Option Value}
theorem int_known {n : Int} {t : Tok} {Q : Value → Shared → Prop} (hn : n.natAbs < 10 ^ 60) (h : ∀ t' tk', Q (.int n t') { s with toks := tk' }) : wpAny (model PR w) A (call (.type "int") [.str (strOf n) t]) Q E s :=
  KIN.call_text (text_back hn) (by have := strOf_len hn; omega) (h _ _)
theorem round_c {Q : Flow → Shared → Prop} {Ms Ld ST x R RW TK : Addr} {tv : List Value} {blk : List Int} {wd j : Nat} {a c t : Int} {ta tc tt ti ts : Tok} {tps tl : List (Addr × Obj)} (G : Gnd w h₀) (hA : A.handled = none) (hroom : A.depth + 4 < recursionLimit)
    (F : Fr h₀ L s.heap m) (hm : Knows m [("a", .int a ta), ("c", .int c tc), ("mails", .ref Ms), ("laid", .ref Ld), ("struck", .ref ST), ("t", .int t tt), ("line", .ref x), ("row", .ref R), ("rows", .ref RW), ("i", .int (3 - (j : Int)) ti), ("signs", .str (sgn wd) ts), ("taken", .ref TK)])
    (N : News h₀ L s.heap ((TK, listOf tv.toArray 0) :: tl)) (hW : Words tps tv blk) (hps : ∀ p ∈ tps, p ∈ tl) (hbl : blk.length ≤ 1000) (hrb : ∀ n ∈ blk, n.natAbs < 10 ^ 60)
    (hfin : ∀ h' tk' m' D bv nD, Fr h₀ L h' m' → Knows m' [("a", .int a ta), ("c", .int c tc), ("mails", .ref Ms), ("laid", .ref Ld), ("struck", .ref ST), ("t", .int t tt), ("line", .ref x), ("row", .ref R), ("rows", .ref RW), ("i", .int (3 - (j : Int)) ti), ("block", .ref D)] →
      News h₀ L h' ((D, listOf (bv : List Value).toArray nD) :: tl) → IntsAre bv blk → (∀ p ∈ tl, p.1 ≠ D) → wpAny (model PR w) A (execs (roundStmts.1.drop 4) (lawEnv L)) Q Never { s with heap := h', toks := tk' }) :
    wpAny (model PR w) A (execs (roundStmts.1.drop 3) (lawEnv L)) Q Never s := by
  walk_at "mineFill"
  have X := G.X
  obtain ⟨p, loose, mean, mg, mb, TT⟩ := G.T
  unfold lawEnv roundStmts lawScope
  simp only [List.drop]
  replace F := hm.fr F
  refine wpAny_execs_cons ?_
  refine Assign_pairs (by rfl) (by rfl) (by decide) (by rfl) (by decide) (by rfl) (by rfl) (by decide) hA (by rfl) (by rfl) ?_
  iterate 1 walk1
  dsimp only
  have hTK : s.heap.IsList TK tv.toArray := ⟨_, (N (TK, _) (by k_mem)).1, rfl, 0, rfl⟩
  refine wpAny_pyIter_list hTK ?_
  obtain ⟨Ts, vals, hit, htup, hval⟩ := words_vals hW N fun p hp => .tail _ (hps p hp)
  have hTlt : ∀ j, j < tv.length → Ts j < s.heap.objs.size := fun j hj => by obtain ⟨o, e, _⟩ := htup j hj; exact Heap.lt_size e
  have hTKlt : TK < s.heap.objs.size := Heap.lt_size (N (TK, _) (by k_mem)).1
  have hI : (s.heap.push (liObj TK 0)).get? s.heap.objs.size = some (liObj TK 0) := Heap.get?_push_size _ rfl
  refine' ⟨s.heap.objs.size, _, _, _, _, _, _, (fun i y => ∃ t, y = Value.int (blk.getD i 0) t), _, rfl, ⟨WalksU.bound (WalksU.listOfTuples (prog := PR) (w := w) hA s.heap.objs.size TK (Nat.ne_of_lt hTKlt) tv.toArray Ts vals (fun j hj => by rw [List.getElem?_toArray]; exact hit j (by simpa using hj)) (fun j hj => Nat.ne_of_lt (hTlt j (by simpa using hj)))), ?two, ?few, ?start, ?low, ?elt⟩, ?hLw, (F.push (liObj TK 0)).ns, ?fin⟩
  case two =>
    rintro i vs' ⟨hi, rfl⟩
    obtain ⟨u1, u2, e⟩ := hval i (by simpa using hi)
    exact ⟨_, _, e⟩
  case few => rw [List.size_toArray, hW.length]; omega
  case start =>
    refine ⟨⟨_, hI, rfl, rfl⟩, hTK.push _, fun k hk => ?_⟩
    obtain ⟨o, e, r⟩ := htup k (by simpa using hk)
    exact ⟨o, Heap.get?_push_of_some _ e, r⟩
  case low =>
    intro b hb
    show b < (s.heap.push _).objs.size
    rw [Heap.size_push]
    rcases List.mem_cons.mp hb with rfl | hb
    · exact Nat.lt_succ_self _
    · rcases List.mem_cons.mp hb with rfl | hb
      · exact Nat.lt_succ_of_lt hTKlt
      · obtain ⟨j, hj, rfl⟩ := List.mem_map.mp hb
        exact Nat.lt_succ_of_lt (hTlt j (by simpa using hj))
  case hLw => intro hm; exact absurd (List.mem_singleton.mp hm) (Nat.ne_of_lt F.ns.lt)
  case elt =>
    intro C E' i va vb t' m₂ hi' hC hP hnC hma hmb hkt
    obtain ⟨u1, u2, e⟩ := hval i (by simpa using hi')
    obtain ⟨rfl, rfl⟩ : va = _ ∧ vb = _ := by simpa using hP.2.trans e
    have hil : i < blk.length := by have := hi'; rw [List.size_toArray, hW.length] at this; exact this
    have hnb : (blk.getD i 0).natAbs < 10 ^ 60 := hrb _ (by rw [List.getD_eq_getElem?_getD, List.getElem?_eq_getElem hil]; exact List.getElem_mem hil)
    obtain ⟨h5, g5, d5, t5, o5⟩ := t'
    have hb0 : ∀ b o, h₀.get? b = some o → h5.get? b = some o := fun b o e => hkt b o (by simpa using Nat.ne_of_lt (Heap.lt_size (F.keep b o e))) ((F.push (liObj TK 0)).keep b o e)
    have T4 := TT.keeps hb0
    have hgs : mg "int" = none := ns_none_of X TT.g (by kernel_rfl)
    have hbs : mb "int" = some (.type "int") := (TT.builtins _ (by decide)).trans boot_int
    iterate 1 walk1
    refine Name_function_global rfl rfl (loadGlobal_builtin T4.g hgs T4.b hbs ?_) (by decide)
    iterate 2 walk1
    refine wpAny_Name (wpAny_loadName_local (by rfl) (by rfl) hnC hmb ?_) (by decide)
    iterate 1 walk1
    refine int_known hnb fun t6 tk6 => ?_
    exact ⟨⟨_, rfl⟩, _, _, rfl, fun _ _ e => e⟩
  case fin =>
    intro D h' tk' ys hD hpl hsy hF hns hk'
    obtain ⟨nD, hpl⟩ := hpl
    have hD0 : (s.heap.push (liObj TK 0)).get? D = none := Heap.get?_none_of_le hD
    obtain ⟨F3, N3, hDn⟩ := comp_frame hD0 hpl hns hk' (F.push (liObj TK 0)) (N.push F (liObj TK 0)) fun p hp => Nat.ne_of_lt (Heap.lt_size (N p hp).1)
    have hints := intsAre_of (ys := ys.toList) (ns := blk) (by rw [Array.length_toList, hsy, List.size_toArray, hW.length]) (fun j' y e => hF j' y (by simpa using e))
    dsimp only
    exact hfin h' _ _ D ys.toList nD F3 ⟨rfl, rfl, rfl, rfl, rfl, rfl, rfl, rfl, rfl, rfl, rfl, trivial⟩ (fun p hp => by
      rcases List.mem_cons.mp hp with rfl | hp
      · rw [Array.toArray_toList]; exact N3 _ (.head _)
      · exact N3 p (.tail _ (.tail _ hp))) hints fun p hp => Ne.symm (hDn p (.tail _ hp))
end
end
section
/- the part Round4 -/
open PySem PySem.W PyProof.Rows PySem.Spec PySem.Calls PySem.W.X
set_option maxRecDepth 100000
set_option maxHeartbeats 400000
set_option pp.deepTerms false
set_option pp.deepTerms.threshold 8
section
variable {w : World} {A : Around} {s : Shared} {E : Value → Shared → Prop} {h₀ : Heap} {L : Addr} {m : Str → Option Value}
theorem ints_self (r : List Int) : PyData.eqv (.list (r.map PyData.int)) (.list (r.map PyData.int)) = true := by
  rw [PyData.eqv]
  induction r with
  | nil => rfl
  | cons n r ih =>
    rw [List.map_cons, PyData.eqvAll, ih]
    simp [PyData.eqv]
theorem round_d {Q : Flow → Shared → Prop} {Ms Ld ST x R RW D : Addr} {sI : Addr} {STv : Array Value} {bv rv vI : List Value} {bi row stI : List Int} {nI : Nat} {last : Int} {wd j nD nR : Nat} {a c t : Int} {ta tc tt ti ts : Tok} {tl : List (Addr × Obj)} (G : Gnd w h₀) (hA : A.handled = none) (hroom : A.depth + 4 < recursionLimit) (hun : A.units ≤ 2000)
    (F : Fr h₀ L s.heap m) (hm : Knows m [("a", .int a ta), ("c", .int c tc), ("mails", .ref Ms), ("laid", .ref Ld), ("struck", .ref ST), ("t", .int t tt), ("line", .ref x), ("row", .ref R), ("rows", .ref RW), ("i", .int (3 - (j : Int)) ti), ("block", .ref D)])
    (N : News h₀ L s.heap ((D, listOf bv.toArray nD) :: (ST, listOf STv 0) :: (sI, listOf vI.toArray nI) :: (R, listOf rv.toArray nR) :: tl)) (hbi : IntsAre bv (bi ++ [last])) (hrow : IntsAre rv row) (hst : IntsAre vI stI) (hSI : STv[(3 - (j : Int)).toNat]? = some (.ref sI))
    (hj4 : j < 4) (hbl : bi.length ≤ 1000) (hrl : row.length ≤ 1000) (hsl : stI.length ≤ 1000) (hDn : ∀ p ∈ (ST, listOf STv 0) :: (sI, listOf vI.toArray nI) :: (R, listOf rv.toArray nR) :: tl, p.1 ≠ D) (hsn : ∀ p ∈ (ST, listOf STv 0) :: (R, listOf rv.toArray nR) :: tl, p.1 ≠ sI)
    (hfin : ∀ h' tk' m' R2 rw' vI' n2, Fr h₀ L h' m' → Knows m' [("a", .int a ta), ("c", .int c tc), ("mails", .ref Ms), ("laid", .ref Ld), ("struck", .ref ST), ("t", .int t tt), ("line", .ref x), ("row", .ref R2), ("rows", .ref RW)] →
      News h₀ L h' ((ST, listOf STv 0) :: (sI, listOf (vI' : List Value).toArray n2) :: (R2, listOf (rw' : List Value).toArray 0) :: tl) → IntsAre rw' (bi ++ row) → IntsAre vI' (stI ++ [last]) → (∀ p ∈ (ST, listOf STv 0) :: tl, p.1 ≠ R2) → sI ≠ R2 → Q .next { s with heap := h', toks := tk' }) :
    wpAny (model PR w) A (execs (roundStmts.1.drop 4) (lawEnv L)) Q Never s := by
  walk_at "mineFill"
  have X := G.X
  obtain ⟨p, loose, mean, mg, mb, TT⟩ := G.T
  unfold lawEnv roundStmts lawScope
  simp only [List.drop]
  replace F := hm.fr F
  iterate 6 walk1
  refine item_sub ⟨_, (N (ST, _) (by k_mem)).1, rfl, 0, rfl⟩ (by omega) (by omega) hSI ?_
  iterate 7 walk1
  have hbl' : bv.length = bi.length + 1 := by rw [hbi.length]; simp
  refine kpa_pop F N (.head hDn) hbi (by omega) (by rw [sizeLine_eq]; omega) fun h1 t1 F1 N1 hI1 => ?_
  rw [List.dropLast_concat] at hI1
  have elast : (bi ++ [last]).getLastD 0 = last := by simp
  rw [elast]
  clear F N
  dsimp only
  iterate 1 walk1
  refine wpAny_list_append_plain (items := vI.toArray) ⟨nI, (N1 (sI, _) (by k_mem)).1⟩ (fun h2 ⟨n2, hp2⟩ hs2 => ?_) (by rw [List.size_toArray, hst.length, sizeLine_eq]; omega)
  rw [List.push_toArray] at hp2
  obtain ⟨F2, N2⟩ := mut_frame (fun b o hb e => (hs2.2 b hb).trans e) hp2 F1 N1 (.tail (Ne.symm (hDn (sI, _) (.tail _ (.head _)))) (.tail (hsn (ST, _) (.head _)) (.head fun p hp => hsn p (.tail _ hp))))
  clear F1 N1
  revert hI1 N2
  generalize bv.dropLast = bw
  intro hI1 N2
  dsimp only
  iterate 8 walk1
  have hD2 : h2.IsList D bw.toArray := ⟨_, (N2 (D, _) (by k_mem)).1, rfl, nD + 1, rfl⟩
  refine subscriptTail_ops (T := "list") (ops := _) (Heap.IsList.typeIs (s := { heap := h2.push _, gens := s.gens, drawn := s.drawn, toks := _, os := s.os }) (hD2.push _)) list_getitem_lookup
    (wpAny_getItem_list_slice (hD2.push _) (Heap.IsSliceOf.new ..) .none .none .none (by decide) ?_ (by rw [List.size_toArray, hI1.length, sizeLine_eq]; omega)) (by with_unfolding_all rfl) (by intro _; with_unfolding_all rfl)
  rw [slicePick_all]
  have F3 := (F2.push { cls := .type "slice", data := .fields #[Value.none, Value.none, Value.none] }).push { cls := .type "list", data := .seq bw.toArray }
  have N3 := ((N2.push F2 { cls := .type "slice", data := .fields #[Value.none, Value.none, Value.none] }).push (F2.push _) { cls := .type "list", data := .seq bw.toArray })
  revert F3 N3
  dsimp only
  generalize (h2.push { cls := .type "slice", data := .fields #[Value.none, Value.none, Value.none] }).objs.size = KP
  generalize (h2.push { cls := .type "slice", data := .fields #[Value.none, Value.none, Value.none] }).push { cls := .type "list", data := .seq bw.toArray } = h3
  intro F3 N3
  replace N3 := News_pick N3 (l := (KP, listOf bw.toArray 0) :: (D, listOf bw.toArray (nD + 1)) :: (ST, listOf STv 0) :: (sI, listOf (vI ++ [Value.int last t1]).toArray n2) :: (R, listOf rv.toArray nR) :: tl) (pc (.head _) fun p hp => .tail _ (.tail _ hp))
  clear F2 N2 hD2
  iterate 13 walk1
  have F4 := ‹Fr _ _ _ _›
  have N4 := ‹News _ _ _ _›
  refine add_list (G.keeps F4.keep) (by omega) ⟨_, (N4 (D, _) (by k_mem)).1, rfl, nD + 1, rfl⟩ ⟨_, (N4 (R, _) (by k_mem)).1, rfl, nR, rfl⟩ (by rw [hI1.length, hrow.length, sizeLine_eq]; omega) fun R2 hR2 h5 tk5 hk5 hp5 => ?_
  obtain ⟨F5, N5, hn5⟩ := add_new hk5 (Heap.get?_none_of_le hR2) hp5 F4 N4
  clear F4 N4 hk5
  dsimp only
  iterate 7 walk1
  have F6 := ‹Fr _ _ _ _›
  have N6 := ‹News _ _ _ _›
  have R1 := reads_of_ints (h := _) ⟨_, (N6 (D, _) (by k_mem)).1, rfl, nD + 1, rfl⟩ hI1
  have R2' := reads_of_ints (h := _) ⟨_, (N6 (KP, _) (by k_mem)).1, rfl, 0, rfl⟩ hI1
  refine SeqAt.compareNe_shaped R1 R2' (shaped_ints _) (shaped_ints _) (by show _ < 9900; omega) ?_
  rw [ints_self]
  iterate 3 walk1
  dsimp only
  refine wpAny_execs_nil ?_
  exact hfin _ _ _ R2 _ _ n2 F6 ⟨rfl, rfl, rfl, rfl, rfl, rfl, rfl, rfl, rfl, trivial⟩ (News_pick N6 (l := (ST, listOf STv 0) :: (sI, listOf (vI ++ [Value.int last t1]).toArray n2) :: (R2, listOf (bw ++ rv).toArray 0) :: tl) (pc (by k_mem) (pc (by k_mem) (pc (by k_mem) fun p hp => .tail _ (.tail _ (.tail _ (.tail _ (.tail _ (.tail _ hp)))))))))
    (intsAre_app hI1 hrow) (intsAre_app hst (.cons _ _ .nil)) (fun p hp => hn5 p (.tail _ (.tail _ (by
      rcases List.mem_cons.mp hp with rfl | hp
      · exact .head _
      · exact .tail _ (.tail _ (.tail _ hp)))))) (hn5 (sI, _) (by k_mem))
end
end
section
/- the part Round5 -/
open PySem PySem.W PyProof.Rows PySem.Spec PySem.Calls PySem.W.X
set_option maxRecDepth 100000
set_option maxHeartbeats 400000
set_option pp.deepTerms false
set_option pp.deepTerms.threshold 8
def blkOf (l : List Int) (w : Nat) : List Int := l.drop (l.length - w)
theorem blk_len {l : List Int} {w : Nat} (h : w ≤ l.length) : (blkOf l w).length = w := by
  unfold blkOf
  rw [List.length_drop]
  omega
theorem blk_last {l : List Int} {w : Nat} (h : w ≤ l.length) (h1 : 1 ≤ w) : blkOf l w = (blkOf l w).dropLast ++ [(blkOf l w).getLastD 0] := by
  have hl := blk_len h
  generalize blkOf l w = b at hl
  have hne : b ≠ [] := by rintro rfl; simp at hl; omega
  have e : b.getLastD 0 = b.getLast hne := by
    cases b with
    | nil => exact absurd rfl hne
    | cons x r => rfl
  rw [e]
  exact (List.dropLast_concat_getLast hne).symm
section
variable {w : World} {A : Around} {s : Shared} {E : Value → Shared → Prop} {h₀ : Heap} {L : Addr} {m : Str → Option Value}
theorem round_all {Q : Flow → Shared → Prop} {Ms Ld ST x dx R RW sI : Addr} {STv : Array Value} {vs Lv rv vI : List Value} {lft la row stI : List Int} {n' nL wd j nR nI : Nat} {a c t : Int} {ta tc tt ti ts tkk : Tok} {tps tl : List (Addr × Obj)} (G : Gnd w h₀) (hA : A.handled = none) (hroom : A.depth + 4 < recursionLimit) (hun : A.units ≤ 2000) (htok : 0 < s.toks)
    (F : Fr h₀ L s.heap m) (hm : Knows m [("a", .int a ta), ("c", .int c tc), ("mails", .ref Ms), ("laid", .ref Ld), ("struck", .ref ST), ("t", .int t tt), ("line", .ref x), ("row", .ref R), ("rows", .ref RW), ("i", .int (3 - (j : Int)) ti), ("signs", .str (sgn wd) ts)])
    (N : News h₀ L s.heap ((x, accObj dx vs.toArray n') :: (dx, accDict w tkk) :: (ST, listOf STv 0) :: (sI, listOf vI.toArray nI) :: (R, listOf rv.toArray nR) :: (Ld, listOf Lv.toArray nL) :: tl))
    (hW : Words tps vs lft) (hps : ∀ p ∈ tps, p ∈ tl) (hLv : IntsAre Lv la) (hj : j < la.length) (hj4 : j < 4) (hla : t + 2 - la.getD j 0 = (wd : Int) + 1) (hll : lft.length ≤ 1000) (hrb : ∀ n ∈ lft, n.natAbs < 10 ^ 60) (hw1 : 1 ≤ wd) (hwd : wd ≤ lft.length)
    (hrow : IntsAre rv row) (hst : IntsAre vI stI) (hSI : STv[(3 - (j : Int)).toNat]? = some (.ref sI)) (hrl : row.length ≤ 1000) (hsl : stI.length ≤ 1000)
    (hxn : ∀ p ∈ (ST, listOf STv 0) :: (sI, listOf vI.toArray nI) :: (R, listOf rv.toArray nR) :: (Ld, listOf Lv.toArray nL) :: tl, p.1 ≠ x) (hxd : x ≠ dx)
    (hsn : ∀ p ∈ (dx, accDict w tkk) :: (ST, listOf STv 0) :: (R, listOf rv.toArray nR) :: (Ld, listOf Lv.toArray nL) :: tl, p.1 ≠ sI)
    (hfin : ∀ h' tk' m' R2 rw' vI' n2 n5, Fr h₀ L h' m' → Knows m' [("a", .int a ta), ("c", .int c tc), ("mails", .ref Ms), ("laid", .ref Ld), ("struck", .ref ST), ("t", .int t tt), ("line", .ref x), ("row", .ref R2), ("rows", .ref RW)] →
      News h₀ L h' ((x, accObj dx (vs.take (vs.length - wd)).toArray n5) :: (dx, accDict w tkk) :: (ST, listOf STv 0) :: (sI, listOf (vI' : List Value).toArray n2) :: (R2, listOf (rw' : List Value).toArray 0) :: (Ld, listOf Lv.toArray nL) :: tl) →
      Words tps (vs.take (vs.length - wd)) (lft.take (lft.length - wd)) → IntsAre rw' ((blkOf lft wd).dropLast ++ row) → IntsAre vI' (stI ++ [(blkOf lft wd).getLastD 0]) →
      x ≠ R2 → dx ≠ R2 → ST ≠ R2 → sI ≠ R2 → Ld ≠ R2 → (∀ p ∈ tl, p.1 ≠ R2) → Q .next { s with heap := h', toks := tk' }) :
    wpAny (model PR w) A (execs roundStmts.1 (lawEnv L)) Q Never s := by
  have hvl := hW.length
  have hblk := blk_last hwd hw1
  have hbl := blk_len hwd
  refine round_a (tl := (ST, listOf STv 0) :: (sI, listOf vI.toArray nI) :: (R, listOf rv.toArray nR) :: (Ld, listOf Lv.toArray nL) :: tl) G hA hroom htok F hm N hxn hxd (by omega) (by omega) fun h1 tk1 m1 TK n5 F1 hm1 N1 hTx => ?_
  refine round_b (s := ⟨h1, s.gens, s.drawn, tk1, s.os⟩) (la := la) (Lv := Lv) (nL := nL) (tps := tps) (blk := blkOf lft wd) (tl := (x, accObj dx (vs.take (vs.length - wd)).toArray n5) :: (dx, accDict w tkk) :: (ST, listOf STv 0) :: (sI, listOf vI.toArray nI) :: (R, listOf rv.toArray nR) :: tl) G hA hroom hun F1 hm1
    (News_pick N1 (pc (by k_mem) (pc (by k_mem) (pc (by k_mem) (pc (by k_mem) (pc (by k_mem) (pc (by k_mem) (pc (by k_mem) fun p hp => .tail _ (.tail _ (.tail _ (.tail _ (.tail _ (.tail _ (.tail _ hp)))))))))))))) (by
      have := hW.drop (lft.length - wd)
      rw [hvl]
      exact this) (fun p hp => .tail _ (.tail _ (.tail _ (.tail _ (.tail _ (hps p hp)))))) hLv hj hj4 hla (by omega) (fun n hn => hrb n (List.mem_of_mem_drop hn)) (by omega) fun h2 tk2 m2 F2 hm2 N2 => ?_
  refine round_c (s := ⟨h2, s.gens, s.drawn, tk2, s.os⟩) (tps := tps) (blk := blkOf lft wd) G hA hroom F2 hm2 N2 (by
      have := hW.drop (lft.length - wd)
      rw [hvl]
      exact this) (fun p hp => .tail _ (.tail _ (.tail _ (.tail _ (.tail _ (.tail _ (hps p hp))))))) (by omega) (fun n hn => hrb n (List.mem_of_mem_drop hn)) fun h3 tk3 m3 D bv nD F3 hm3 N3 hbv hDn => ?_
  have hDt : ∀ p ∈ tl, p.1 ≠ D := fun p hp => hDn p (.tail _ (.tail _ (.tail _ (.tail _ (.tail _ (.tail _ hp))))))
  rw [hblk] at hbv
  refine round_d (ts := ts) (wd := wd) (s := ⟨h3, s.gens, s.drawn, tk3, s.os⟩) (tl := (Ld, listOf Lv.toArray nL) :: (x, accObj dx (vs.take (vs.length - wd)).toArray n5) :: (dx, accDict w tkk) :: tl) (stI := stI) (row := row) (bi := (blkOf lft wd).dropLast) (last := (blkOf lft wd).getLastD 0) (STv := STv) (vI := vI) (nI := nI) (rv := rv) (nR := nR) G hA hroom hun F3 hm3
    (News_pick N3 (pc (by k_mem) (pc (by k_mem) (pc (by k_mem) (pc (by k_mem) (pc (by k_mem) (pc (by k_mem) (pc (by k_mem) fun p hp => .tail _ (.tail _ (.tail _ (.tail _ (.tail _ (.tail _ (.tail _ hp)))))))))))))) hbv hrow hst hSI hj4 (by rw [List.length_dropLast]; omega) hrl hsl
    (nc (hDn (ST, _) (by k_mem)) (nc (hDn (sI, _) (by k_mem)) (nc (hDn (R, _) (by k_mem)) (nc (hDn (Ld, _) (by k_mem)) (nc (hDn (x, _) (by k_mem)) (nc (hDn (dx, _) (by k_mem)) hDt))))))
    (nc (hsn (ST, _) (by k_mem)) (nc (hsn (R, _) (by k_mem)) (nc (hsn (Ld, _) (by k_mem)) (nc (Ne.symm (hxn (sI, _) (by k_mem))) (nc (hsn (dx, _) (by k_mem)) fun p hp => hsn p (.tail _ (.tail _ (.tail _ (.tail _ hp)))))))))
    fun h4 tk4 m4 R2 rw' vI' n2 F4 hm4 N4 hrw hvI hR2 hsR2 => ?_
  exact hfin h4 tk4 m4 R2 rw' vI' n2 n5 F4 hm4 (News_pick N4 (pc (by k_mem) (pc (by k_mem) (pc (by k_mem) (pc (by k_mem) (pc (by k_mem) (pc (by k_mem) fun p hp => .tail _ (.tail _ (.tail _ (.tail _ (.tail _ (.tail _ hp))))))))))))
    (by rw [hvl]; exact hW.take _) hrw hvI (hR2 (x, _) (by k_mem)) (hR2 (dx, _) (by k_mem)) (hR2 (ST, _) (by k_mem)) hsR2 (hR2 (Ld, _) (by k_mem)) fun p hp => hR2 p (.tail _ (.tail _ (.tail _ (.tail _ hp))))
end
end
section
/- the part Turn4 -/
open PySem PySem.W PyProof.Rows PySem.Spec PySem.Calls PySem.W.X
set_option maxRecDepth 100000
set_option maxHeartbeats 400000
set_option pp.deepTerms false
set_option pp.deepTerms.threshold 8
section
variable {w : World} {A : Around} {s : Shared} {E : Value → Shared → Prop} {h₀ : Heap} {L : Addr} {m : Str → Option Value}
theorem slice_known {value slice : Expr} {l sl : Addr} {vl vu vs : Value} {lo hi st : Option Int} {items : Array Value} {news : List (Addr × Obj)} {ops : List Value} {Q : Value → Shared → Prop} (F : Fr h₀ L s.heap m) (N : News h₀ L s.heap news) (hl : s.heap.IsList l items) (hs : s.heap.IsSliceOf sl vl vu vs)
    (pl : IsPart vl lo) (pu : IsPart vu hi) (ps : IsPart vs st) (h0 : st ≠ some 0) (hsz : items.size ≤ sizeLine)
    (h : ∀ K h', Fr h₀ L h' m → News h₀ L h' ((K, listOf (slicePick items lo hi st) 0) :: news) → (∀ p ∈ news, p.1 < K) → Q (.ref K) { s with heap := h' })
    (ho : subscripted slice false (.ref l) (.ref sl) = operate ops (getItem (.ref l) (.ref sl))) :
    wpAny (model PR w) A (subscriptTail value slice (.ref l) (.ref sl)) Q E s :=
  tail_any (T := "list") (ops := ops) hl.typeIs slot_list_getitem.lookup
    (wpAny_getItem_list_slice hl hs pl pu ps h0 (h _ _ (F.push _) (N.push F _) fun p hp => Heap.lt_size (N p hp).1) hsz) ho
def leftOf (r : List Int) (wd : Nat → Nat) : Nat → List Int
  | 0 => r
  | j + 1 => (leftOf r wd j).take ((leftOf r wd j).length - wd j)
def rowOf (r : List Int) (wd : Nat → Nat) : Nat → List Int
  | 0 => []
  | j + 1 => (blkOf (leftOf r wd j) (wd j)).dropLast ++ rowOf r wd j
def stAt (st0 : Nat → List Int) (r : List Int) (wd : Nat → Nat) : Nat → Nat → List Int
  | 0, k => st0 k
  | j + 1, k => if k = 3 - j then stAt st0 r wd j k ++ [(blkOf (leftOf r wd j) (wd j)).getLastD 0] else stAt st0 r wd j k
theorem left_sub {r : List Int} {wd : Nat → Nat} : ∀ {j : Nat} {n : Int}, n ∈ leftOf r wd j → n ∈ r
  | 0, _, h => h
  | _ + 1, _, h => left_sub (List.mem_of_mem_take h)
theorem left_len (r : List Int) (wd : Nat → Nat) : ∀ j, (leftOf r wd j).length ≤ r.length
  | 0 => Nat.le_refl _
  | j + 1 => by
    have := left_len r wd j
    rw [leftOf, List.length_take]
    omega
theorem row_len (r : List Int) (wd : Nat → Nat) : ∀ j, (leftOf r wd j).length + (rowOf r wd j).length ≤ r.length
  | 0 => by simp [leftOf, rowOf]
  | j + 1 => by
    have := row_len r wd j
    rw [leftOf, rowOf, List.length_take, List.length_append, List.length_dropLast, blkOf, List.length_drop]
    omega
theorem st_len (st0 : Nat → List Int) (r : List Int) (wd : Nat → Nat) (k : Nat) : ∀ j, (stAt st0 r wd j k).length ≤ (st0 k).length + j
  | 0 => Nat.le_refl _
  | j + 1 => by
    have := st_len st0 r wd k j
    rw [stAt]
    split
    · rw [List.length_append, List.length_singleton]; omega
    · omega
abbrev stSeg (sa : Nat → Addr) (sv : Nat → List Value) (sn : Nat → Nat) : List (Addr × Obj) := [(sa 0, listOf (sv 0).toArray (sn 0)), (sa 1, listOf (sv 1).toArray (sn 1)), (sa 2, listOf (sv 2).toArray (sn 2)), (sa 3, listOf (sv 3).toArray (sn 3))]
theorem seg_mem {sa : Nat → Addr} {sv : Nat → List Value} {sn : Nat → Nat} {k : Nat} (h : k < 4) : (sa k, listOf (sv k).toArray (sn k)) ∈ stSeg sa sv sn := by
  match k, h with
  | 0, _ => exact .head _
  | 1, _ => exact .tail _ (.head _)
  | 2, _ => exact .tail _ (.tail _ (.head _))
  | 3, _ => exact .tail _ (.tail _ (.tail _ (.head _)))
theorem seg_at {sa : Nat → Addr} {sv : Nat → List Value} {sn : Nat → Nat} {p : Addr × Obj} (h : p ∈ stSeg sa sv sn) : ∃ k, k < 4 ∧ p = (sa k, listOf (sv k).toArray (sn k)) := by
  rcases List.mem_cons.mp h with rfl | h
  · exact ⟨0, by decide, rfl⟩
  rcases List.mem_cons.mp h with rfl | h
  · exact ⟨1, by decide, rfl⟩
  rcases List.mem_cons.mp h with rfl | h
  · exact ⟨2, by decide, rfl⟩
  rcases List.mem_cons.mp h with rfl | h
  · exact ⟨3, by decide, rfl⟩
  cases h
/-- the struck lists but one -/
def segBut (sa : Nat → Addr) (sv : Nat → List Value) (sn : Nat → Nat) (i : Nat) : List (Addr × Obj) := (stSeg sa sv sn).filter fun p => p.1 != sa i
theorem segBut_sub {sa : Nat → Addr} {sv : Nat → List Value} {sn : Nat → Nat} {i : Nat} {p : Addr × Obj} (h : p ∈ segBut sa sv sn i) : p ∈ stSeg sa sv sn ∧ p.1 ≠ sa i := by
  have := List.mem_filter.mp h
  exact ⟨this.1, by simpa using this.2⟩
theorem segBut_mem {sa : Nat → Addr} {sv : Nat → List Value} {sn : Nat → Nat} {i k : Nat} (hk : k < 4) (h : sa k ≠ sa i) : (sa k, listOf (sv k).toArray (sn k)) ∈ segBut sa sv sn i :=
  List.mem_filter.mpr ⟨seg_mem hk, by simpa using h⟩
/-- one of the struck lists made longer -/
theorem seg_put {sa : Nat → Addr} {sv : Nat → List Value} {sn : Nat → Nat} {i n2 : Nat} {v : List Value} (hinj : ∀ k l, k < 4 → l < 4 → k ≠ l → sa k ≠ sa l) (hi : i < 4) {news : List (Addr × Obj)} (h1 : (sa i, listOf v.toArray n2) ∈ news) (h2 : ∀ p ∈ segBut sa sv sn i, p ∈ news) :
    ∀ p ∈ stSeg sa (fun k => if k = i then v else sv k) (fun k => if k = i then n2 else sn k), p ∈ news := by
  intro p hp
  obtain ⟨k, hk, rfl⟩ := seg_at hp
  by_cases e : k = i
  · subst e
    simp only [if_true]
    exact h1
  · simp only [if_neg e]
    exact h2 _ (segBut_mem hk (hinj k i hk hi e))
def zok (n a : Nat) : Prop := a ≠ n ∧ a ≠ n + 1 ∧ a ≠ n + 3 ∧ a ≠ n + 4
theorem zok_lt {n a : Nat} (h : a < n) : zok n a := ⟨by omega, by omega, by omega, by omega⟩
theorem zip_frame {h h' : Heap} {n : Nat} {news : List (Addr × Obj)} (hk : ∀ c o, c ≠ n + 4 → c ≠ n + 3 → c ≠ n → c ≠ n + 1 → h.get? c = some o → h'.get? c = some o) (hL : L < n) (F : Fr h₀ L h m) (N : News h₀ L h news) (hn : ∀ p ∈ news, zok n p.1) : Fr h₀ L h' m ∧ News h₀ L h' news := by
  have old : ∀ b o, b < n → h.get? b = some o → h'.get? b = some o := fun b o hb e => by
    have z := zok_lt hb
    exact hk b o z.2.2.2 z.2.2.1 z.1 z.2.1 e
  refine ⟨⟨F.ns.at' fun o e => old L o hL e, fun b o e => old b o ?_ (F.keep b o e), F.above⟩, fun p hp => ?_⟩
  · exact Nat.lt_of_lt_of_le (Heap.lt_size e) (Nat.le_of_lt (Nat.lt_of_le_of_lt F.above hL))
  · have z := hn p hp
    exact ⟨hk _ _ z.2.2.2 z.2.2.1 z.1 z.2.1 (N p hp).1, (N p hp).2⟩
/-- the objects a zip stands on -/
theorem zip_led {h : Heap} {z TI TO i1 i2 l1 l2 : Addr} {f0 : Value} {xs ys : Array Value} {i : Nat} (Z : ZipTL h z TI TO i1 i2 l1 l2 f0 xs ys i) :
    ∃ zl : List (Addr × Obj), (∀ p ∈ zl, h.get? p.1 = some p.2) ∧ zl.map (·.1) = [z, TI, TO, i1, i2, l1, l2] ∧ ∀ h', (∀ p ∈ zl, h'.get? p.1 = some p.2) → ZipTL h' z TI TO i1 i2 l1 l2 f0 xs ys i := by
  obtain ⟨oz, ez⟩ : ∃ o, h.get? z = some o := ⟨_, Z.z⟩
  obtain ⟨oI, eI⟩ : ∃ o, h.get? TI = some o := ⟨_, Z.ti⟩
  obtain ⟨oO, eO⟩ : ∃ o, h.get? TO = some o := by obtain ⟨a, b, e⟩ := Z.out; exact ⟨_, e⟩
  obtain ⟨o1, e1, _⟩ := id Z.it1
  obtain ⟨o2, e2, _⟩ := id Z.it2
  obtain ⟨o3, e3, _⟩ := id Z.s1
  obtain ⟨o4, e4, _⟩ := id Z.s2
  refine ⟨[(z, oz), (TI, oI), (TO, oO), (i1, o1), (i2, o2), (l1, o3), (l2, o4)], ?_, rfl, fun h' hk => Z.frame ?_⟩
  · intro p hp
    simp only [List.mem_cons, List.not_mem_nil, or_false] at hp
    rcases hp with rfl | rfl | rfl | rfl | rfl | rfl | rfl <;> assumption
  · intro b hb o e
    simp only [List.mem_cons, List.not_mem_nil, or_false] at hb
    rcases hb with rfl | rfl | rfl | rfl | rfl | rfl | rfl
    · rw [ez] at e; cases e; exact hk (_, _) (.head _)
    · rw [eI] at e; cases e; exact hk (_, _) (.tail _ (.head _))
    · rw [eO] at e; cases e; exact hk (_, _) (.tail _ (.tail _ (.head _)))
    · rw [e1] at e; cases e; exact hk (_, _) (.tail _ (.tail _ (.tail _ (.head _))))
    · rw [e2] at e; cases e; exact hk (_, _) (.tail _ (.tail _ (.tail _ (.tail _ (.head _)))))
    · rw [e3] at e; cases e; exact hk (_, _) (.tail _ (.tail _ (.tail _ (.tail _ (.tail _ (.head _))))))
    · rw [e4] at e; cases e; exact hk (_, _) (.tail _ (.tail _ (.tail _ (.tail _ (.tail _ (.tail _ (.head _)))))))
theorem strs_len : ∀ {vs : List Value} {ys : List Str}, StrsAre vs ys → vs.length = ys.length
  | _, _, .nil => rfl
  | _, _, .cons _ _ h => by simp [strs_len h]
theorem strs_tak : ∀ {vs : List Value} {ys : List Str}, StrsAre vs ys → ∀ k, StrsAre (vs.take k) (ys.take k)
  | _, _, .nil, k => by simp; exact .nil
  | _, _, .cons y t h, 0 => .nil
  | _, _, .cons y t h, k + 1 => .cons y t (strs_tak h k)
theorem strs_drp : ∀ {vs : List Value} {ys : List Str}, StrsAre vs ys → ∀ k, StrsAre (vs.drop k) (ys.drop k)
  | _, _, .nil, k => by simp; exact .nil
  | _, _, .cons y t h, 0 => .cons y t h
  | _, _, .cons y t h, k + 1 => strs_drp h k
theorem strs_app : ∀ {vs ws : List Value} {ys zs : List Str}, StrsAre vs ys → StrsAre ws zs → StrsAre (vs ++ ws) (ys ++ zs)
  | _, _, _, _, .nil, h => h
  | _, _, _, _, .cons y t h, h' => .cons y t (strs_app h h')
theorem strs_rev : ∀ {vs : List Value} {ys : List Str}, StrsAre vs ys → StrsAre vs.reverse ys.reverse
  | _, _, .nil => .nil
  | _, _, .cons y t h => by
    rw [List.reverse_cons, List.reverse_cons]
    exact strs_app (strs_rev h) (.cons y t .nil)
theorem strs_get : ∀ {vs : List Value} {ys : List Str}, StrsAre vs ys → ∀ {j : Nat} {y : Str}, ys[j]? = some y → ∃ t, vs[j]? = some (.str y t)
  | _, _, .nil, j, y, e => by simp at e
  | _, _, .cons z t h, 0, y, e => by simp at e; subst e; exact ⟨t, rfl⟩
  | _, _, .cons z t h, j + 1, y, e => by simpa using strs_get h (by simpa using e)
end
end
section
/- the part Turn5 -/
open PySem PySem.W PyProof.Rows PySem.Spec PySem.Calls PySem.W.X
set_option maxRecDepth 100000
set_option maxHeartbeats 400000
set_option pp.deepTerms false
set_option pp.deepTerms.threshold 8
section
variable {w : World} {A : Around} {s : Shared} {E : Value → Shared → Prop} {h₀ : Heap} {L : Addr} {m : Str → Option Value}
/-- the loop over i and signs -/
theorem turn_d {Q : Flow → Shared → Prop} {Ms Ld ST R RW x dx : Addr} {STv : Array Value} {sa : Nat → Addr} {sv : Nat → List Value} {sn : Nat → Nat} {st0 : Nat → List Int} {wd : Nat → Nat} {nr : Nat} {rwv vs Lv : List Value} {tail3 : List Str} {r la : List Int} {n' nL : Nat} {a c t : Int} {ta tc tt tkk : Tok} {tps tl : List (Addr × Obj)} (G : Gnd w h₀) (hA : A.handled = none) (hroom : A.depth + 4 < recursionLimit) (hun : A.units ≤ 2000)
    (F : Fr h₀ L s.heap m) (hm : Knows m [("a", .int a ta), ("c", .int c tc), ("mails", .ref Ms), ("laid", .ref Ld), ("struck", .ref ST), ("t", .int t tt), ("line", .ref x), ("row", .ref R), ("rows", .ref RW)])
    (N : News h₀ L s.heap ((RW, listOf rwv.toArray 0) :: (R, listOf #[] 0) :: (x, accObj dx vs.toArray n') :: (dx, accDict w tkk) :: (ST, listOf STv 0) :: (Ld, listOf Lv.toArray nL) :: (stSeg sa sv sn ++ tl)))
    (hrw : StrsAre rwv (((List.range nr).map fun j => sgn (wd j)).reverse ++ tail3)) (h3 : tail3.length = 3) (hnr : nr ≤ 4)
    (hW : Words tps vs r) (hps : ∀ p ∈ tps, p ∈ tl) (hLv : IntsAre Lv la) (hla4 : la.length = 4) (hla : ∀ j, j < nr → t + 2 - la.getD j 0 = (wd j : Int) + 1) (hrl : r.length ≤ 900) (hrb : ∀ n ∈ r, n.natAbs < 10 ^ 60) (hw : ∀ j, j < nr → 1 ≤ wd j ∧ wd j ≤ (leftOf r wd j).length)
    (hst : ∀ k, k < 4 → IntsAre (sv k) (st0 k)) (hsl : ∀ k, k < 4 → (st0 k).length ≤ 900) (hSI : ∀ k, k < 4 → STv[k]? = some (.ref (sa k))) (hinj : ∀ k l, k < 4 → l < 4 → k ≠ l → sa k ≠ sa l)
    (hxn : ∀ p ∈ (RW, listOf rwv.toArray 0) :: (R, listOf #[] 0) :: (ST, listOf STv 0) :: (Ld, listOf Lv.toArray nL) :: (stSeg sa sv sn ++ tl), p.1 ≠ x) (hxd : x ≠ dx)
    (hsn : ∀ k, k < 4 → ∀ p ∈ (RW, listOf rwv.toArray 0) :: (R, listOf #[] 0) :: (dx, accDict w tkk) :: (ST, listOf STv 0) :: (Ld, listOf Lv.toArray nL) :: tl, p.1 ≠ sa k)
    (hRn : ∀ p ∈ (RW, listOf rwv.toArray 0) :: (dx, accDict w tkk) :: (ST, listOf STv 0) :: (Ld, listOf Lv.toArray nL) :: tl, p.1 ≠ R)
    (hfin : ∀ h' tk' m' R2 rv' sv' sn', Fr h₀ L h' m' → Knows m' [("a", .int a ta), ("c", .int c tc), ("mails", .ref Ms), ("laid", .ref Ld), ("struck", .ref ST), ("t", .int t tt), ("line", .ref x), ("row", .ref R2), ("rows", .ref RW)] →
      News h₀ L h' ((RW, listOf rwv.toArray 0) :: (R2, listOf (rv' : List Value).toArray 0) :: (ST, listOf STv 0) :: (Ld, listOf Lv.toArray nL) :: (stSeg sa sv' sn' ++ tl)) → IntsAre rv' (rowOf r wd nr) → (∀ k, k < 4 → IntsAre (sv' k) (stAt st0 r wd nr k)) →
      (∀ k, k < 4 → sa k ≠ R2) → RW ≠ R2 → ST ≠ R2 → Ld ≠ R2 → (∀ p ∈ tl, p.1 ≠ R2) → wpAny (model PR w) A (execs (turnStmts.1.drop 8) (lawEnv L)) Q Never { s with heap := h', toks := tk' }) :
    wpAny (model PR w) A (execs (turnStmts.1.drop 7) (lawEnv L)) Q Never s := by
  walk_at "mineFill"
  have X := G.X
  obtain ⟨p, loose, mean, mg, mb, TT⟩ := G.T
  unfold lawEnv turnStmts lawScope
  simp only [List.drop]
  replace F := hm.fr F
  have hsg : ((List.range nr).map fun j => sgn (wd j)).length = nr := by simp
  generalize hsgs : ((List.range nr).map fun j => sgn (wd j)) = sg at hrw hsg
  refine wpAny_execs_cons ?_
  refine for_ruleQ ?_ (fun _ => rfl)
  iterate 16 walk1
  rename_i tup h1 F1 N1 lt1
  obtain ⟨u3, u2, u1, u0, N1⟩ : ∃ u3 u2 u1 u0 : Tok, News h₀ L h1 ((tup, tupOf #[.int 3 u3, .int 2 u2, .int 1 u1, .int 0 u0]) :: (RW, listOf rwv.toArray 0) :: (R, listOf #[] 0) :: (x, accObj dx vs.toArray n') :: (dx, accDict w tkk) :: (ST, listOf STv 0) :: (Ld, listOf Lv.toArray nL) :: (stSeg sa sv sn ++ tl)) := ⟨_, _, _, _, N1⟩
  dsimp only
  iterate 10 walk1
  have hlen : rwv.length = sg.length + 3 := by rw [strs_len hrw, List.length_append, List.length_reverse, h3]
  have hRW : h1.IsList RW rwv.toArray := ⟨_, (N1 (RW, _) (by k_mem)).1, rfl, 0, rfl⟩
  refine slice_known (F1.push _) (N1.grown fun b o e => Heap.get?_push_of_some _ e) (hRW.push _) (Heap.IsSliceOf.new ..) .none (.int _ _) .none (by decide) (by rw [List.size_toArray, hlen, sizeLine_eq]; omega) (fun K1 h2 F2 N2 lK1 => ?_) (ops := _) (by with_unfolding_all rfl)
  have e1 : slicePick rwv.toArray none (some (-3)) none = (rwv.take sg.length).toArray := by
    have := slicePick_butLast rwv.toArray 3 (by decide)
    rw [List.size_toArray, hlen, Nat.add_sub_cancel] at this
    simpa using this
  rw [e1] at N2
  have hs2 := strs_tak hrw sg.length
  rw [List.take_left' (List.length_reverse ..)] at hs2
  dsimp only
  clear F1 N1 hRW
  iterate 7 walk1
  have hK1 : h2.IsList K1 (rwv.take sg.length).toArray := ⟨_, (N2 (K1, _) (.head _)).1, rfl, 0, rfl⟩
  refine slice_known (F2.push _) (N2.grown fun b o e => Heap.get?_push_of_some _ e) (hK1.push _) (Heap.IsSliceOf.new ..) .none .none (.int _ _) (by decide) (by rw [List.size_toArray, List.length_take, hlen, sizeLine_eq]; omega) (fun K2 h3 F3 N3 lK2 => ?_) (ops := _) (by with_unfolding_all rfl)
  have e2 : slicePick (rwv.take sg.length).toArray none none (some (-1)) = (rwv.take sg.length).reverse.toArray := krv_pick _
  rw [e2] at N3
  have hs3 := strs_rev hs2
  rw [List.reverse_reverse] at hs3
  revert hs3 N3
  generalize (rwv.take sg.length).reverse = gv
  intro N3 hs3
  dsimp only
  clear F2 N2 hK1
  iterate 1 walk1
  have hTP : h3.IsTuple tup #[.int 3 u3, .int 2 u2, .int 1 u1, .int 0 u0] := ⟨_, (N3 (tup, _) (.tail _ (.tail _ (.head _)))).1, rfl, 0, rfl⟩
  have hK2 : h3.IsList K2 gv.toArray := ⟨_, (N3 (K2, _) (.head _)).1, rfl, 0, rfl⟩
  refine call_ztl hTP hK2 fun h4 Z4 hk4 => ?_
  refine wpAny_pyIter_zip Z4.z ?_
  obtain ⟨F4, N4⟩ := kept_frame hk4 F3 N3
  have hn0 : ∀ p ∈ (K2, listOf gv.toArray 0) :: (K1, listOf (rwv.take sg.length).toArray 0) :: (tup, tupOf #[Value.int 3 u3, .int 2 u2, .int 1 u1, .int 0 u0]) :: (RW, listOf rwv.toArray 0) :: (R, listOf #[] 0) :: (x, accObj dx vs.toArray n') :: (dx, accDict w tkk) :: (ST, listOf STv 0) :: (Ld, listOf Lv.toArray nL) :: (stSeg sa sv sn ++ tl), p.1 < h3.objs.size := fun p hp => Heap.lt_size (N3 p hp).1
  have hLn : L < h3.objs.size := F3.ns.lt
  have hh0 : ∀ k, h₀.get? (h3.objs.size + k) = none := fun k => Heap.get?_none_of_le (Nat.le_trans (Nat.le_of_lt (Nat.lt_of_le_of_lt F3.above hLn)) (Nat.le_add_right _ _))
  have hD := zipApart_of (n := h3.objs.size) (l1 := tup) (l2 := K2) (hn0 (tup, _) (.tail _ (.tail _ (.head _)))) (hn0 (K2, _) (.head _))
  have hnew : ∀ a ∈ [tup, K2], a ≠ L ∧ h₀.get? a = none := by
    intro a ha
    rcases List.mem_cons.mp ha with rfl | ha
    · exact (N3 _ (.tail _ (.tail _ (.head _)))).2
    · rw [List.mem_singleton.mp ha]; exact (N3 _ (.head _)).2
  have lK2' : ∀ p ∈ (RW, listOf rwv.toArray 0) :: (R, listOf #[] 0) :: (x, accObj dx vs.toArray n') :: (dx, accDict w tkk) :: (ST, listOf STv 0) :: (Ld, listOf Lv.toArray nL) :: (stSeg sa sv sn ++ tl), p.1 ≠ K2 := fun p hp => Nat.ne_of_lt (lK2 p (.tail _ (.tail _ hp)))
  have ltup : ∀ p ∈ (RW, listOf rwv.toArray 0) :: (R, listOf #[] 0) :: (x, accObj dx vs.toArray n') :: (dx, accDict w tkk) :: (ST, listOf STv 0) :: (Ld, listOf Lv.toArray nL) :: (stSeg sa sv sn ++ tl), p.1 ≠ tup :=
    nc (Nat.ne_of_lt lt1.1) (nc (Nat.ne_of_lt lt1.2.1) (nc (Nat.ne_of_lt lt1.2.2.1) (nc (Nat.ne_of_lt lt1.2.2.2.1) (nc (Nat.ne_of_lt lt1.2.2.2.2.1) (nc (Nat.ne_of_lt lt1.2.2.2.2.2.1) (allLt_ne lt1.2.2.2.2.2.2))))))
  replace N4 := News_pick N4 (l := (RW, listOf rwv.toArray 0) :: (R, listOf #[] 0) :: (x, accObj dx vs.toArray n') :: (dx, accDict w tkk) :: (ST, listOf STv 0) :: (Ld, listOf Lv.toArray nL) :: (stSeg sa sv sn ++ tl)) fun p hp => .tail _ (.tail _ (.tail _ hp))
  replace hn0 : ∀ p ∈ (RW, listOf rwv.toArray 0) :: (R, listOf #[] 0) :: (x, accObj dx vs.toArray n') :: (dx, accDict w tkk) :: (ST, listOf STv 0) :: (Ld, listOf Lv.toArray nL) :: (stSeg sa sv sn ++ tl), p.1 < h3.objs.size := fun p hp => hn0 p (.tail _ (.tail _ (.tail _ hp)))
  clear hk4 F3 N3 hTP hK2 lK2 lK1 lt1
  revert Z4 hn0 hLn hh0 hD
  dsimp only
  generalize h3.objs.size = n0
  intro Z4 hLn hh0 hD hn0
  clear N1
  refine ⟨1, fun k s' => ∃ (j : Nat) (h' : Heap) (tk : Nat) (m : Str → Option Value) (R : Addr) (rv vs' : List Value) (n' : Nat) (sv : Nat → List Value) (sn : Nat → Nat), s' = { s with heap := h', toks := tk } ∧ j ≤ nr ∧ k = nr - j ∧
    ZipTL h' (n0 + 4) (n0 + 2) (n0 + 3) n0 (n0 + 1) tup K2 .none #[.int 3 u3, .int 2 u2, .int 1 u1, .int 0 u0] gv.toArray j ∧ Fr h₀ L h' m ∧
    Knows m [("a", .int a ta), ("c", .int c tc), ("mails", .ref Ms), ("laid", .ref Ld), ("struck", .ref ST), ("t", .int t tt), ("line", .ref x), ("row", .ref R), ("rows", .ref RW)] ∧
    News h₀ L h' ((RW, listOf rwv.toArray 0) :: (R, listOf rv.toArray 0) :: (x, accObj dx vs'.toArray n') :: (dx, accDict w tkk) :: (ST, listOf STv 0) :: (Ld, listOf Lv.toArray nL) :: (stSeg sa sv sn ++ tl)) ∧
    Words tps vs' (leftOf r wd j) ∧ IntsAre rv (rowOf r wd j) ∧ (∀ k, k < 4 → IntsAre (sv k) (stAt st0 r wd j k)) ∧ zok n0 R ∧ tup ≠ R ∧ K2 ≠ R ∧ x ≠ R ∧ (∀ k, k < 4 → sa k ≠ R) ∧ (∀ p ∈ (RW, listOf rwv.toArray 0) :: (dx, accDict w tkk) :: (ST, listOf STv 0) :: (Ld, listOf Lv.toArray nL) :: tl, p.1 ≠ R), nr, by omega, ?_, ?_⟩
  · exact ⟨0, h4, _, _, R, [], vs, n', sv, sn, rfl, Nat.zero_le _, rfl, Z4, F4, hm.kst, N4, hW, .nil, hst, zok_lt (hn0 (R, _) (.tail _ (.head _))), Ne.symm (ltup (R, _) (.tail _ (.head _))), Ne.symm (lK2' (R, _) (.tail _ (.head _))), Ne.symm (hxn (R, _) (.tail _ (.head _))), fun k hk => Ne.symm (hsn k hk (R, _) (.tail _ (.head _))), hRn⟩
  · clear F4 N4 Z4 hm
    have hx0 : x < n0 := hn0 (x, _) (.tail _ (.tail _ (.head _)))
    have hxt : x ≠ tup := ltup (x, _) (.tail _ (.tail _ (.head _)))
    have hxK : x ≠ K2 := lK2' (x, _) (.tail _ (.tail _ (.head _)))
    have hsa0 : ∀ k, k < 4 → sa k < n0 ∧ sa k ≠ tup ∧ sa k ≠ K2 ∧ sa k ≠ x := fun k hk => by
      have hm : (sa k, listOf (sv k).toArray (sn k)) ∈ stSeg sa sv sn ++ tl := List.mem_append_left _ (seg_mem hk)
      exact ⟨hn0 _ (.tail _ (.tail _ (.tail _ (.tail _ (.tail _ (.tail _ hm)))))), ltup _ (.tail _ (.tail _ (.tail _ (.tail _ (.tail _ (.tail _ hm)))))), lK2' _ (.tail _ (.tail _ (.tail _ (.tail _ (.tail _ (.tail _ hm)))))), hxn _ (.tail _ (.tail _ (.tail _ (.tail _ hm))))⟩
    have hRW0 : RW < n0 := hn0 (RW, _) (.head _)
    have hdx0 : dx < n0 := hn0 (dx, _) (.tail _ (.tail _ (.tail _ (.head _))))
    have hST0 : ST < n0 := hn0 (ST, _) (.tail _ (.tail _ (.tail _ (.tail _ (.head _)))))
    have hLd0 : Ld < n0 := hn0 (Ld, _) (.tail _ (.tail _ (.tail _ (.tail _ (.tail _ (.head _))))))
    have htl0 : ∀ p ∈ tl, p.1 < n0 := fun p hp => hn0 _ (.tail _ (.tail _ (.tail _ (.tail _ (.tail _ (.tail _ (List.mem_append_right _ hp)))))))
    have htlx : ∀ p ∈ tl, p.1 ≠ x := fun p hp => hxn _ (.tail _ (.tail _ (.tail _ (.tail _ (List.mem_append_right _ hp)))))
    rintro Qb k s' hQb htk ⟨j, h', tk, m, R', rv, vs', n5, sv', sn', rfl, hj, rfl, Z, F', hm, N', hW', hrv, hst', hzR, htR, hKR, hxR, hsR, hR'n⟩
    by_cases hlt : j < nr
    · obtain ⟨tj, hxj⟩ : ∃ tj, #[Value.int 3 u3, .int 2 u2, .int 1 u1, .int 0 u0][j]? = some (.int (3 - (j : Int)) tj) := by
        have : j = 0 ∨ j = 1 ∨ j = 2 ∨ j = 3 := by omega
        rcases this with rfl | rfl | rfl | rfl
        · exact ⟨_, rfl⟩
        · exact ⟨_, rfl⟩
        · exact ⟨_, rfl⟩
        · exact ⟨_, rfl⟩
      obtain ⟨ts, hyj⟩ := strs_get hs3 (j := j) (y := sgn (wd j)) (by rw [← hsgs, List.getElem?_map, List.getElem?_range hlt]; rfl)
      have hzn : ∀ p ∈ (RW, listOf rwv.toArray 0) :: (R', listOf rv.toArray 0) :: (x, accObj dx vs'.toArray n5) :: (dx, accDict w tkk) :: (ST, listOf STv 0) :: (Ld, listOf Lv.toArray nL) :: (stSeg sa sv' sn' ++ tl), zok n0 p.1 := by
        intro p hp
        rcases List.mem_cons.mp hp with rfl | hp
        · exact zok_lt hRW0
        rcases List.mem_cons.mp hp with rfl | hp
        · exact hzR
        rcases List.mem_cons.mp hp with rfl | hp
        · exact zok_lt hx0
        rcases List.mem_cons.mp hp with rfl | hp
        · exact zok_lt hdx0
        rcases List.mem_cons.mp hp with rfl | hp
        · exact zok_lt hST0
        rcases List.mem_cons.mp hp with rfl | hp
        · exact zok_lt hLd0
        rcases List.mem_append.mp hp with hp | hp
        · obtain ⟨k, hk, rfl⟩ := seg_at hp
          exact zok_lt (hsa0 k hk).1
        · exact zok_lt (htl0 p hp)
      refine ztl_item hD Z hxj (by simpa using hyj) fun h1 Z1 hP1 hk1 => ?_
      obtain ⟨F1, N1⟩ := zip_frame hk1 hLn F' N' hzn
      refine ztl_go hD Z1 fun h2 Z2 hs2 => ?_
      obtain ⟨F2, N2⟩ := zip_frame (fun c o c1 _ _ _ e => hs2.extBut c o c1 e) hLn F1 N1 hzn
      have hT2 := hs2.extBut _ _ (Nat.ne_of_gt (Heap.lt_size Z.z)) hP1
      refine wpAny_assign_Tuple hA ⟨_, hT2, rfl, 0, rfl⟩ rfl rfl fun h3 hx3 => ?_
      have old3 : ∀ b o, h2.get? b = some o → h3.get? b = some o := fun b o e => hx3 b o (Nat.ne_of_lt (Heap.lt_size e)) e
      obtain ⟨F3, N3⟩ := kept_frame old3 F2 N2
      have Z3 := Z2.frame (h' := h3) fun b _ o e => old3 b o e
      obtain ⟨zl, hz1, hz2, hz3⟩ := zip_led Z3
      have hzl : ∀ p ∈ zl, p.1 = n0 + 4 ∨ p.1 = n0 + 2 ∨ p.1 = n0 + 3 ∨ p.1 = n0 ∨ p.1 = n0 + 1 ∨ p.1 = tup ∨ p.1 = K2 := fun p hp => by
        have := List.mem_map_of_mem (f := (·.1)) hp
        rw [hz2] at this
        simpa using this
      have NZ : News h₀ L h3 zl := fun p hp => by
        refine ⟨hz1 p hp, ?_⟩
        have big : ∀ k, n0 + k ≠ L ∧ h₀.get? (n0 + k) = none := fun k => ⟨Nat.ne_of_gt (Nat.lt_of_lt_of_le hLn (Nat.le_add_right _ _)), hh0 k⟩
        rcases hzl p hp with e | e | e | e | e | e | e
        · rw [e]; exact big 4
        · rw [e]; exact big 2
        · rw [e]; exact big 3
        · rw [e]; exact big 0
        · rw [e]; exact big 1
        · rw [e]; exact hnew tup (.head _)
        · rw [e]; exact hnew K2 (.tail _ (.head _))
      have hi4 : 3 - j < 4 := by omega
      replace N3 : News h₀ L h3 ((x, accObj dx vs'.toArray n5) :: (dx, accDict w tkk) :: (ST, listOf STv 0) :: (sa (3 - j), listOf (sv' (3 - j)).toArray (sn' (3 - j))) :: (R', listOf rv.toArray 0) :: (Ld, listOf Lv.toArray nL) :: ((RW, listOf rwv.toArray 0) :: (segBut sa sv' sn' (3 - j) ++ (zl ++ tl)))) := by
        have hseg : ∀ p ∈ stSeg sa sv' sn' ++ tl, p ∈ (RW, listOf rwv.toArray 0) :: (R', listOf rv.toArray 0) :: (x, accObj dx vs'.toArray n5) :: (dx, accDict w tkk) :: (ST, listOf STv 0) :: (Ld, listOf Lv.toArray nL) :: (stSeg sa sv' sn' ++ tl) := fun p hp => .tail _ (.tail _ (.tail _ (.tail _ (.tail _ (.tail _ hp)))))
        have base := News_pick N3 (l := (x, accObj dx vs'.toArray n5) :: (dx, accDict w tkk) :: (ST, listOf STv 0) :: (sa (3 - j), listOf (sv' (3 - j)).toArray (sn' (3 - j))) :: (R', listOf rv.toArray 0) :: (Ld, listOf Lv.toArray nL) :: ((RW, listOf rwv.toArray 0) :: (segBut sa sv' sn' (3 - j) ++ tl)))
          (pc (by k_mem) (pc (by k_mem) (pc (by k_mem) (pc (hseg _ (List.mem_append_left _ (seg_mem hi4))) (pc (by k_mem) (pc (by k_mem) (pc (by k_mem) fun p hp => by
            rcases List.mem_append.mp hp with hp | hp
            · exact hseg _ (List.mem_append_left _ (segBut_sub hp).1)
            · exact hseg _ (List.mem_append_right _ hp))))))))
        intro p hp
        rcases List.mem_cons.mp hp with rfl | hp
        · exact base _ (.head _)
        rcases List.mem_cons.mp hp with rfl | hp
        · exact base _ (.tail _ (.head _))
        rcases List.mem_cons.mp hp with rfl | hp
        · exact base _ (.tail _ (.tail _ (.head _)))
        rcases List.mem_cons.mp hp with rfl | hp
        · exact base _ (.tail _ (.tail _ (.tail _ (.head _))))
        rcases List.mem_cons.mp hp with rfl | hp
        · exact base _ (.tail _ (.tail _ (.tail _ (.tail _ (.head _)))))
        rcases List.mem_cons.mp hp with rfl | hp
        · exact base _ (.tail _ (.tail _ (.tail _ (.tail _ (.tail _ (.head _))))))
        rcases List.mem_cons.mp hp with rfl | hp
        · exact base _ (.tail _ (.tail _ (.tail _ (.tail _ (.tail _ (.tail _ (.head _)))))))
        rcases List.mem_append.mp hp with hp | hp
        · exact base _ (.tail _ (.tail _ (.tail _ (.tail _ (.tail _ (.tail _ (.tail _ (List.mem_append_left _ hp))))))))
        rcases List.mem_append.mp hp with hp | hp
        · exact NZ p hp
        · exact base _ (.tail _ (.tail _ (.tail _ (.tail _ (.tail _ (.tail _ (.tail _ (List.mem_append_right _ hp))))))))
      clear F1 N1 F2 N2 F' N' NZ Z1 Z2 Z3 Z hs2 hk1 hP1 hT2 hx3 old3
      replace F3 := hm.fr F3
      show wpAny _ _ (do holding [Value.str (sgn (wd j)) ts] (assign (.Name _ _) _ (Value.int (3 - (j : Int)) tj)); do holding [] (assign (.Name _ _) _ (Value.str (sgn (wd j)) ts)); pure ()) _ _ _
      refine wpAny_bind (wpAny_holding (wpAny_assign_Name ?_))
      walk1
      refine wpAny_bind (wpAny_holding (wpAny_assign_Name ?_))
      walk1
      refine wpAny_pure ?_
      have F8 := ‹Fr _ _ _ _›
      have N8 := ‹News _ _ _ _›
      have ej : (3 - (j : Int)).toNat = 3 - j := by omega
      have hnum : ∀ a, a < n0 → a ≠ tup → a ≠ K2 → ∀ p ∈ zl, p.1 ≠ a := fun a ha ht hk p hp e => by
        rcases hzl p hp with q | q | q | q | q | q | q
        · exact absurd (q.symm.trans e) (Nat.ne_of_gt (Nat.lt_of_lt_of_le ha (Nat.le_add_right _ _)))
        · exact absurd (q.symm.trans e) (Nat.ne_of_gt (Nat.lt_of_lt_of_le ha (Nat.le_add_right _ _)))
        · exact absurd (q.symm.trans e) (Nat.ne_of_gt (Nat.lt_of_lt_of_le ha (Nat.le_add_right _ _)))
        · exact absurd (q.symm.trans e) (Nat.ne_of_gt ha)
        · exact absurd (q.symm.trans e) (Nat.ne_of_gt (Nat.lt_of_lt_of_le ha (Nat.le_add_right _ _)))
        · exact ht (e.symm.trans q)
        · exact hk (e.symm.trans q)
      have hxn' : ∀ p ∈ (ST, listOf STv 0) :: (sa (3 - j), listOf (sv' (3 - j)).toArray (sn' (3 - j))) :: (R', listOf rv.toArray 0) :: (Ld, listOf Lv.toArray nL) :: ((RW, listOf rwv.toArray 0) :: (segBut sa sv' sn' (3 - j) ++ (zl ++ tl))), p.1 ≠ x :=
        nc (hxn (ST, _) (.tail _ (.tail _ (.head _)))) (nc (hsa0 _ hi4).2.2.2 (nc (Ne.symm hxR) (nc (hxn (Ld, _) (.tail _ (.tail _ (.tail _ (.head _))))) (nc (hxn (RW, _) (.head _)) (na (fun p hp => by
          obtain ⟨k, hk, rfl⟩ := seg_at (segBut_sub hp).1
          exact (hsa0 k hk).2.2.2) (na (hnum x hx0 hxt hxK) htlx))))))
      have hsn' : ∀ p ∈ (dx, accDict w tkk) :: (ST, listOf STv 0) :: (R', listOf rv.toArray 0) :: (Ld, listOf Lv.toArray nL) :: ((RW, listOf rwv.toArray 0) :: (segBut sa sv' sn' (3 - j) ++ (zl ++ tl))), p.1 ≠ sa (3 - j) :=
        nc (hsn _ hi4 (dx, _) (.tail _ (.tail _ (.head _)))) (nc (hsn _ hi4 (ST, _) (.tail _ (.tail _ (.tail _ (.head _))))) (nc (Ne.symm (hsR _ hi4)) (nc (hsn _ hi4 (Ld, _) (.tail _ (.tail _ (.tail _ (.tail _ (.head _)))))) (nc (hsn _ hi4 (RW, _) (.head _))
          (na (fun p hp => (segBut_sub hp).2) (na (hnum _ (hsa0 _ hi4).1 (hsa0 _ hi4).2.1 (hsa0 _ hi4).2.2.1) fun p hp => hsn _ hi4 p (.tail _ (.tail _ (.tail _ (.tail _ (.tail _ hp)))))))))))
      have hll := left_len r wd j
      have hrr := row_len r wd j
      have hss := st_len st0 r wd (3 - j) j
      have hs9 := hsl (3 - j) hi4
      refine round_all (tps := tps) (la := la) (lft := leftOf r wd j) (row := rowOf r wd j) (stI := stAt st0 r wd j (3 - j)) G hA hroom hun (Nat.succ_pos _) F8 ⟨rfl, rfl, rfl, rfl, rfl, rfl, rfl, rfl, rfl, rfl, rfl, trivial⟩ N8 hW' (fun p hp => .tail _ (List.mem_append_right _ (List.mem_append_right _ (hps p hp)))) hLv (by omega) (by omega) (hla j hlt) (by omega) (fun n hn => hrb n (left_sub hn)) (hw j hlt).1 (hw j hlt).2 hrv (hst' _ hi4) (by rw [ej]; exact hSI _ hi4) (by omega) (by omega) hxn' hxd hsn'
        fun h4 tk4 m4 R2 rw' vI' n2 n6 F9 hm9 N9 hW9 hrw9 hvI9 g1 g2 g3 g4 g5 g6 => ?_
      have hzR2 : ∀ a, a ∈ [n0 + 4, n0 + 2, n0 + 3, n0, n0 + 1, tup, K2] → a ≠ R2 := fun a ha => by
        have ha' : a ∈ zl.map (·.1) := by rw [hz2]; exact ha
        obtain ⟨p, hp, rfl⟩ := List.mem_map.mp ha'
        exact g6 p (.tail _ (List.mem_append_right _ (List.mem_append_left _ hp)))
      have hZ := hz3 h4 fun p hp => (N9 p (.tail _ (.tail _ (.tail _ (.tail _ (.tail _ (.tail _ (.tail _ (List.mem_append_right _ (List.mem_append_left _ hp)))))))))).1
      have hput := seg_put (sv := sv') (sn := sn') hinj hi4 (news := (x, accObj dx (vs'.take (vs'.length - wd j)).toArray n6) :: (dx, accDict w tkk) :: (ST, listOf STv 0) :: (sa (3 - j), listOf vI'.toArray n2) :: (R2, listOf rw'.toArray 0) :: (Ld, listOf Lv.toArray nL) :: ((RW, listOf rwv.toArray 0) :: (segBut sa sv' sn' (3 - j) ++ (zl ++ tl)))) (.tail _ (.tail _ (.tail _ (.head _)))) fun p hp => .tail _ (.tail _ (.tail _ (.tail _ (.tail _ (.tail _ (.tail _ (List.mem_append_left _ hp)))))))
      refine hQb _ ⟨_, Nat.sub_lt_sub_left hlt (Nat.lt_succ_self j), j + 1, h4, tk4, m4, R2, rw', _, n6, fun k => if k = 3 - j then vI' else sv' k, fun k => if k = 3 - j then n2 else sn' k, rfl, hlt, rfl, hZ, F9, hm9, ?_, hW9, hrw9, fun k hk => ?_, ⟨Ne.symm (hzR2 _ (by simp)), Ne.symm (hzR2 _ (by simp)), Ne.symm (hzR2 _ (by simp)), Ne.symm (hzR2 _ (by simp))⟩, hzR2 _ (by simp), hzR2 _ (by simp), g1, fun k hk => ?_, ?_⟩
      · refine News_pick N9 (pc (by k_mem) (pc (by k_mem) (pc (by k_mem) (pc (by k_mem) (pc (by k_mem) (pc (by k_mem) fun p hp => ?_))))))
        rcases List.mem_append.mp hp with hp | hp
        · exact hput p hp
        · exact .tail _ (.tail _ (.tail _ (.tail _ (.tail _ (.tail _ (.tail _ (List.mem_append_right _ (List.mem_append_right _ hp))))))))
      · rw [stAt]
        by_cases e : k = 3 - j
        · subst e
          simp only [if_true]
          exact hvI9
        · simp only [if_neg e]
          exact hst' k hk
      · by_cases e : k = 3 - j
        · subst e; exact g4
        · exact g6 (sa k, _) (.tail _ (List.mem_append_left _ (segBut_mem hk (hinj k (3 - j) hk hi4 e))))
      · exact nc (g6 (RW, _) (.head _)) (nc g2 (nc g3 (nc g5 fun p hp => g6 p (.tail _ (List.mem_append_right _ (List.mem_append_right _ hp))))))
    · have hje : j = nr := by omega
      subst hje
      have hzn : ∀ p ∈ (RW, listOf rwv.toArray 0) :: (R', listOf rv.toArray 0) :: (ST, listOf STv 0) :: (Ld, listOf Lv.toArray nL) :: (stSeg sa sv' sn' ++ tl), zok n0 p.1 := by
        intro p hp
        rcases List.mem_cons.mp hp with rfl | hp
        · exact zok_lt hRW0
        rcases List.mem_cons.mp hp with rfl | hp
        · exact hzR
        rcases List.mem_cons.mp hp with rfl | hp
        · exact zok_lt hST0
        rcases List.mem_cons.mp hp with rfl | hp
        · exact zok_lt hLd0
        rcases List.mem_append.mp hp with hp | hp
        · obtain ⟨k, hk, rfl⟩ := seg_at hp
          exact zok_lt (hsa0 k hk).1
        · exact zok_lt (htl0 p hp)
      have hglen : gv.toArray[j]? = none := by
        rw [List.getElem?_toArray]
        exact List.getElem?_eq_none (by rw [strs_len hs3, hsg]; exact Nat.le_refl _)
      refine ztl_end hA hD Z (.inr hglen) fun h4 hk4 => ?_
      obtain ⟨F9, N9⟩ := zip_frame hk4 hLn F' (News_pick N' (l := (RW, listOf rwv.toArray 0) :: (R', listOf rv.toArray 0) :: (ST, listOf STv 0) :: (Ld, listOf Lv.toArray nL) :: (stSeg sa sv' sn' ++ tl)) (pc (by k_mem) (pc (by k_mem) (pc (by k_mem) (pc (by k_mem) fun p hp => .tail _ (.tail _ (.tail _ (.tail _ (.tail _ (.tail _ hp)))))))))) hzn
      unfold Over
      dsimp only
      exact hfin h4 tk m R' rv sv' sn' F9 hm N9 hrv hst' hsR (hR'n (RW, _) (.head _)) (hR'n (ST, _) (.tail _ (.tail _ (.head _)))) (hR'n (Ld, _) (.tail _ (.tail _ (.tail _ (.head _))))) fun p hp => hR'n p (.tail _ (.tail _ (.tail _ (.tail _ hp))))
end
end
section
/- the part Turn6 -/
open PySem PySem.W PyProof.Rows PySem.Spec PySem.Calls PySem.W.X
set_option maxRecDepth 100000
set_option maxHeartbeats 400000
set_option pp.deepTerms false
set_option pp.deepTerms.threshold 8
/-- the sums run through a row, i steps -/
def psumN (l : List Int) : Nat → List Int
  | 0 => l
  | i + 1 => (psumN l i).set (i + 1) ((psumN l i).getD i 0 + (psumN l i).getD (i + 1) 0)
theorem psumN_len (l : List Int) : ∀ i, (psumN l i).length = l.length
  | 0 => rfl
  | i + 1 => by rw [psumN, List.length_set, psumN_len l i]
theorem ints_set : ∀ {vs : List Value} {ns : List Int} {i : Nat} {n : Int} {t : Tok}, IntsAre vs ns → IntsAre (vs.set i (.int n t)) (ns.set i n)
  | _, _, _, _, _, .nil => .nil
  | _, _, 0, _, _, .cons m u h => .cons _ _ h
  | _, _, i + 1, _, _, .cons m u h => .cons m u (ints_set h)
theorem psize (n : Nat) : Builtin.Range.rangeSize 1 (n : Int) 1 = ((n - 1 : Nat) : Int) := by
  unfold Builtin.Range.rangeSize
  rw [if_pos (by decide)]
  split <;> omega
section
variable {w : World} {A : Around} {s : Shared} {E : Value → Shared → Prop} {h₀ : Heap} {L : Addr} {m : Str → Option Value}
theorem reads_strs {h : Heap} : ∀ {vs : List Value} {ys : List Str}, StrsAre vs ys → ReadsAll h vs (ys.map PyData.str) []
  | _, _, .nil => .nil
  | _, _, .cons y t r => .cons (as := []) (bs := []) (.str y t) (reads_strs r)
theorem strs_shaped {ys : List Str} (hy : ∀ y ∈ ys, PyData.strOk y = true) : SeqAt.shaped (.list (ys.map PyData.str)) = true := by
  have h1 : PyData.canLayAll0 (ys.map PyData.str) = true := by
    induction ys with
    | nil => rfl
    | cons y r ih =>
      rw [List.map_cons, PyData.canLayAll0, ih fun z hz => hy z (.tail _ hz), PyData.canLay0, hy y (.head _)]
      rfl
  have h2 : ∀ zs : List Str, PyData.depthAll (zs.map PyData.str) = 0 := by
    intro zs
    induction zs with
    | nil => rfl
    | cons y r ih =>
      rw [List.map_cons, PyData.depthAll, ih]
      rfl
  unfold SeqAt.shaped
  rw [PyData.canLay0, h1, PyData.depth, h2, Bool.true_and]
  rfl
theorem strs_self (ys : List Str) : PyData.eqv (.list (ys.map PyData.str)) (.list (ys.map PyData.str)) = true := by
  rw [PyData.eqv]
  induction ys with
  | nil => rfl
  | cons n r ih =>
    rw [List.map_cons, PyData.eqvAll, ih]
    simp [PyData.eqv]
theorem mul_ok (n : Int) : PyData.strOk (Txt.mul (Str.ofString ".") n) = true := by
  have e : Str.ofString "." = ⟨#[46]⟩ := by kernel_rfl
  rw [e]
  unfold Txt.mul
  split
  · simp [PyData.strOk, Str.empty]
  split
  · simp [PyData.strOk]
  · have fold : ∀ (k : Nat) (acc : Array Nat), acc.all (· < 0x110000) = true → ((List.replicate k #[46]).foldl (· ++ ·) acc).all (· < 0x110000) = true := by
      intro k
      induction k with
      | zero => exact fun acc h => h
      | succ k ih =>
        intro acc h
        rw [List.replicate_succ, List.foldl_cons]
        refine ih _ ?_
        rw [Array.all_append, h]
        simp
    exact fold _ #[] (by simp)
theorem three_shaped (n : Int) : SeqAt.shaped (.list (([Str.ofString "", Str.ofString "x.", Txt.mul (Str.ofString ".") n] : List Str).map PyData.str)) = true := by
  refine strs_shaped fun y hy => ?_
  simp only [List.mem_cons, List.not_mem_nil, or_false] at hy
  rcases hy with rfl | rfl | rfl
  · exact str_ofString_ok _
  · exact str_ofString_ok _
  · exact mul_ok _
theorem turn_e {Q : Flow → Shared → Prop} {Ms Ld ST R RW x : Addr} {rwv rv : List Value} {row : List Int} {a c t : Int} {ta tc tt : Tok} {tl : List (Addr × Obj)} (G : Gnd w h₀) (hA : A.handled = none) (hroom : A.depth + 4 < recursionLimit)
    (F : Fr h₀ L s.heap m) (hm : Knows m [("a", .int a ta), ("c", .int c tc), ("mails", .ref Ms), ("laid", .ref Ld), ("struck", .ref ST), ("t", .int t tt), ("row", .ref R), ("rows", .ref RW)])
    (N : News h₀ L s.heap ((R, listOf rv.toArray 0) :: (RW, listOf rwv.toArray 0) :: tl)) (hrow : IntsAre rv row) (hrl : row.length ≤ 1000) (hRn : ∀ p ∈ (RW, listOf rwv.toArray 0) :: tl, p.1 ≠ R)
    {sgs : List Str} (hrw : StrsAre rwv (sgs ++ [Str.ofString "", Str.ofString "x.", Txt.mul (Str.ofString ".") (t + 2)])) (hsgl : sgs.length ≤ 1000) (ht0 : 0 ≤ t) (ht9 : t ≤ 100) (hun : A.units ≤ 2000)
    (hfin : ∀ h' tk' m' rv', Fr h₀ L h' m' → Knows m' [("a", .int a ta), ("c", .int c tc), ("mails", .ref Ms), ("laid", .ref Ld), ("struck", .ref ST), ("t", .int t tt), ("row", .ref R), ("rows", .ref RW)] →
      News h₀ L h' ((R, listOf (rv' : List Value).toArray 0) :: (RW, listOf rwv.toArray 0) :: tl) → IntsAre rv' (psumN row (row.length - 1)) → Q .next { s with heap := h', toks := tk' }) :
    wpAny (model PR w) A (execs (turnStmts.1.drop 8) (lawEnv L)) Q Never s := by
  walk_at "mineFill"
  have X := G.X
  obtain ⟨p, loose, mean, mg, mb, TT⟩ := G.T
  unfold lawEnv turnStmts lawScope
  simp only [List.drop]
  replace F := hm.fr F
  refine wpAny_execs_cons ?_
  refine for_ruleQ ?_ (fun _ => rfl)
  iterate 12 walk1
  refine len_known (n := row.length) ⟨_, (N (R, _) (by k_mem)).1, rfl, 0, rfl⟩ (by rw [List.size_toArray]; exact hrow.length) (by omega) fun tl' tkl => ?_
  dsimp only
  iterate 2 walk1
  have hr := ‹IsRange _ _ _ _ _ _ _ _›
  rename_i h7 tk7 _ _ _ aIs F7 N7 hk7
  refine wpAny_pyIter_range hr (small_one (by omega) (by omega) (by omega) (by omega)) ?_
  rw [psize]
  have F8 := F7.push (riObj 1 ((row.length - 1 : Nat) : Int) 1)
  have N8 := N7.push F7 (riObj 1 ((row.length - 1 : Nat) : Int) 1)
  have kJ : ∀ p ∈ (R, listOf rv.toArray 0) :: (RW, listOf rwv.toArray 0) :: tl, p.1 ≠ h7.objs.size := fun p hp => Nat.ne_of_lt (Heap.lt_size (N7 p hp).1)
  clear hr hk7 N7 aIs F7
  revert F8 N8 kJ
  dsimp only
  generalize h7.objs.size = J
  generalize h7.push (riObj 1 ((row.length - 1 : Nat) : Int) 1) = h8
  intro F8 N8 kJ
  have kJR : R ≠ J := kJ _ (.head _)
  have kJt : ∀ p ∈ (RW, listOf rwv.toArray 0) :: tl, p.1 ≠ J := fun p hp => kJ p (.tail _ hp)
  clear kJ
  obtain ⟨cn, hcn⟩ : ∃ cn, row.length - 1 = cn := ⟨_, rfl⟩
  rw [hcn] at N8
  refine ⟨0, fun k s' => ∃ (i : Nat) (h' : Heap) (tk : Nat) (m : Str → Option Value) (rv : List Value), s' = { s with heap := h', toks := tk } ∧ i ≤ cn ∧ k = cn - i ∧ Fr h₀ L h' m ∧
    Knows m [("a", .int a ta), ("c", .int c tc), ("mails", .ref Ms), ("laid", .ref Ld), ("struck", .ref ST), ("t", .int t tt), ("row", .ref R), ("rows", .ref RW)] ∧
    News h₀ L h' ((J, riObj ((i + 1 : Nat) : Int) ((cn : Int) - i) 1) :: (R, listOf rv.toArray 0) :: (RW, listOf rwv.toArray 0) :: tl) ∧ IntsAre rv (psumN row i), cn, Nat.zero_le _, ?_, ?_⟩
  · exact ⟨0, h8, _, _, rv, rfl, Nat.zero_le _, rfl, F8, hm.kst, N8, ‹IntsAre rv row›⟩
  · clear F8 N8 hm
    rintro Qb k s' hQb htk ⟨i, h', tk, m, rv', rfl, hi, rfl, F', hm, N', hrv⟩
    by_cases hlt : i < cn
    · have hpl := psumN_len row i
      refine wpAny_pyNext_range_item (N' _ (.head _)).1 (by omega) fun h3 hit3 hs3 => ?_
      refine owned_name ?_
      obtain ⟨F3, N3⟩ := mut_frame (fun b o hb e => (hs3.2 b hb).trans e) hit3 F' N' (.head (nc kJR kJt))
      replace F3 := hm.fr F3
      refine wpAny_assign_Name ?_
      clear F' N'
      walk1
      refine wpAny_execs_cons ?_
      iterate 19 walk1
      have Na := ‹News _ _ _ _›
      refine int_sub (x := (psumN row i).getD i 0) ⟨_, (Na (R, _) (by k_mem)).1, rfl, 0, rfl⟩ hrv (by omega) (by omega) (by omega) (by congr 1; omega) fun t1 => ?_
      clear Na
      dsimp only
      iterate 4 walk1
      have Na := ‹News _ _ _ _›
      refine int_sub (x := (psumN row i).getD (i + 1) 0) ⟨_, (Na (R, _) (by k_mem)).1, rfl, 0, rfl⟩ hrv (by omega) (by omega) (by omega) rfl fun t2 => ?_
      clear Na
      iterate 2 walk1
      have F4 := ‹Fr _ _ _ _›
      have N4 := ‹News _ _ _ _›
      refine add_int (G.keeps F4.keep) (by omega) fun t3 h5 tk5 hk5 _ => ?_
      obtain ⟨F5, N5⟩ := kept_frame hk5 F4 N4
      clear F4 N4 hk5
      dsimp only
      iterate 2 walk1
      refine setitem_list (xs := rv') (G.keeps F5.keep) (by omega) (N5 (R, _) (by k_mem)).1 (by omega) (by rw [hrv.length]; omega) (by omega) fun h6 tk6 hk6 hR6 _ => ?_
      obtain ⟨F6, N6⟩ := mut_frame hk6 hR6 F5 N5 (.tail (Ne.symm kJR) (.head hRn))
      clear F5 N5 hk6
      dsimp only
      refine wpAny_execs_nil ?_
      try dsimp only
      have er : ((cn : Int) - i - 1) = (cn : Int) - ((i + 1 : Nat) : Int) := by omega
      have eq1 : (((i + 1 : Nat) : Int) + 1) = ((i + 1 + 1 : Nat) : Int) := by omega
      rw [er, eq1] at N6
      exact hQb _ ⟨_, Nat.sub_lt_sub_left hlt (Nat.lt_succ_self i), i + 1, h6, tk6, _, _, rfl, hlt, rfl, F6, ⟨rfl, rfl, rfl, rfl, rfl, rfl, rfl, rfl, trivial⟩, N6, by rw [psumN]; exact ints_set hrv⟩
    · have hie : i = cn := by omega
      subst hie
      refine wpAny_pyNext_range_end hA (N' _ (.head _)).1 (by omega) fun h3 hx => ?_
      obtain ⟨F3, N3⟩ := ext_frame hx (nc kJR kJt) F' N'
      replace F3 := hm.fr F3
      clear F' N'
      unfold Over
      dsimp only
      iterate 12 walk1
      have Fa := ‹Fr _ _ _ _›
      have Na := ‹News _ _ _ _›
      rename_i hx
      have hlen : rwv.length = sgs.length + 3 := by rw [strs_len hrw, List.length_append]; rfl
      have hRW : h3.IsList RW rwv.toArray := ⟨_, (Na (RW, _) (by k_mem)).1, rfl, 0, rfl⟩
      refine slice_known (Fa.push _) (Na.grown fun b o e => Heap.get?_push_of_some _ e) (hRW.push _) (Heap.IsSliceOf.new ..) (.int _ _) .none .none (by decide) (by rw [List.size_toArray, hlen, sizeLine_eq]; omega) (fun K1 h2 F2 N2 lK1 => ?_) (ops := _) (by with_unfolding_all rfl)
      have e1 : slicePick rwv.toArray (some (-3)) none none = (rwv.drop sgs.length).toArray := by
        have := slicePick_last rwv.toArray 3 (by decide)
        rw [List.size_toArray, hlen, Nat.add_sub_cancel] at this
        simpa using this
      rw [e1] at N2
      have hs2 := strs_drp hrw sgs.length
      rw [List.drop_left' rfl] at hs2
      clear Fa Na hRW
      revert hs2 N2
      generalize rwv.drop sgs.length = dv
      intro N2 hs2
      dsimp only
      iterate 15 walk1
      have F4 := ‹Fr _ _ _ _›
      have N4 := ‹News _ _ _ _›
      refine SeqAt.compareNe_shaped (da := .list (([Str.ofString "", Str.ofString "x.", Txt.mul (Str.ofString ".") (t + 2)] : List Str).map PyData.str)) (db := .list (([Str.ofString "", Str.ofString "x.", Txt.mul (Str.ofString ".") (t + 2)] : List Str).map PyData.str)) (.list (N4 (K1, _) (by k_mem)).1 rfl rfl (reads_strs hs2)) (.list (N4 _ (.head _)).1 rfl rfl (reads_strs (.cons _ _ (.cons _ _ (.cons _ _ .nil))))) ?sh ?sh2 (by show _ < 9900; omega) ?_
      case sh => exact three_shaped _
      case sh2 => exact three_shaped _
      rw [strs_self]
      iterate 3 walk1
      dsimp only
      refine wpAny_execs_nil ?_
      try dsimp only
      refine wpAny_execs_nil ?_
      exact hfin _ _ _ rv' F4 hm.kst (News_pick N4 (pc (by k_mem) (pc (by k_mem) fun p hp => .tail _ (.tail _ (.tail _ (.tail _ hp)))))) (hcn ▸ hrv)
end
end
section
/- the part Turn7 -/
open PySem PySem.W PyProof.Rows PySem.Spec PySem.Calls PySem.W.X
set_option maxRecDepth 100000
set_option maxHeartbeats 400000
set_option pp.deepTerms false
set_option pp.deepTerms.threshold 8
section
variable {w : World} {A : Around} {s : Shared} {E : Value → Shared → Prop} {h₀ : Heap} {L : Addr} {m : Str → Option Value}
/-- the rows of a mail -/
def rowsOf (wd : Nat → Nat) (nr : Nat) (t : Int) : List Str := ((List.range nr).map fun j => sgn (wd j)).reverse ++ [Str.ofString "", Str.ofString "x.", Txt.mul (Str.ofString ".") (t + 2)]
theorem turn_all {Q : Flow → Shared → Prop} {Ms Ld ST R : Addr} {STv : Array Value} {sa : Nat → Addr} {sv : Nat → List Value} {sn : Nat → Nat} {st0 : Nat → List Int} {wd : Nat → Nat} {nr tn : Nat} {rv Lv Mv : List Value} {mail : List Nat} {r la : List Int} {nL nM : Nat} {a c : Int} {ta tc tt tmm : Tok} {ps : Array Value} {tl : List (Addr × Obj)} (G : Gnd w h₀) (hA : A.handled = none) (hroom : A.depth + 4 < recursionLimit) (hun : A.units ≤ 2000)
    (C : CodeHd h₀ 126 122) (hB : AllBare s.gens) (hps : TriplesOk ps.toList)
    (F : Fr h₀ L s.heap m) (hm : Knows m [("a", .int a ta), ("c", .int c tc), ("mails", .ref Ms), ("laid", .ref Ld), ("row", .ref R), ("struck", .ref ST), ("t", .int (tn : Int) tt)])
    (N : News h₀ L s.heap ((122, tabObj ps) :: (R, listOf rv.toArray 0) :: (ST, listOf STv 0) :: (Ld, listOf Lv.toArray nL) :: (Ms, listOf Mv.toArray nM) :: (stSeg sa sv sn ++ tl)))
    (hr : IntsAre rv r) (hrl : r.length ≤ 900) (hrb : ∀ n ∈ r, n.natAbs < 10 ^ 60)
    (htn : tn ≤ 90) (hmail : Mv[tn]? = some (.str ⟨mail.toArray⟩ tmm)) (hml : mail.length ≤ 40000) (hsp : Txt.split ⟨mail.toArray⟩ (Str.ofString "\r\n") = rowsOf wd nr tn) (hnr : nr ≤ 4)
    (hLv : IntsAre Lv la) (hla4 : la.length = 4) (hla : ∀ j, j < nr → (tn : Int) + 2 - la.getD j 0 = (wd j : Int) + 1) (hw : ∀ j, j < nr → 1 ≤ wd j ∧ wd j ≤ (leftOf r wd j).length)
    (hst : ∀ k, k < 4 → IntsAre (sv k) (st0 k)) (hsl : ∀ k, k < 4 → (st0 k).length ≤ 900) (hSI : ∀ k, k < 4 → STv[k]? = some (.ref (sa k))) (hinj : ∀ k l, k < 4 → l < 4 → k ≠ l → sa k ≠ sa l)
    (h122 : ∀ p ∈ (R, listOf rv.toArray 0) :: (ST, listOf STv 0) :: (Ld, listOf Lv.toArray nL) :: (Ms, listOf Mv.toArray nM) :: (stSeg sa sv sn ++ tl), p.1 ≠ 122)
    (hsn : ∀ k, k < 4 → ∀ p ∈ (R, listOf rv.toArray 0) :: (ST, listOf STv 0) :: (Ld, listOf Lv.toArray nL) :: (Ms, listOf Mv.toArray nM) :: tl, p.1 ≠ sa k)
    (hfin : ∀ h' g' d' tk' m' R2 rv' sv' sn' ps', AllBare g' → TriplesOk (ps' : Array Value).toList → Fr h₀ L h' m' → Knows m' [("a", .int a ta), ("c", .int c tc), ("mails", .ref Ms), ("laid", .ref Ld), ("row", .ref R2), ("struck", .ref ST)] →
      News h₀ L h' ((122, tabObj ps') :: (R2, listOf (rv' : List Value).toArray 0) :: (ST, listOf STv 0) :: (Ld, listOf Lv.toArray nL) :: (Ms, listOf Mv.toArray nM) :: (stSeg sa sv' sn' ++ tl)) →
      IntsAre rv' (psumN (rowOf r wd nr) ((rowOf r wd nr).length - 1)) → (∀ k, k < 4 → IntsAre (sv' k) (stAt st0 r wd nr k)) → R2 ≠ 122 → (∀ k, k < 4 → R2 ≠ sa k) → (∀ p ∈ tl, p.1 ≠ R2) → Q .next ⟨h', g', d', tk', s.os⟩) :
    wpAny (model PR w) A (execs turnStmts.1 (lawEnv L)) Q Never s := by
  have hseg : ∀ k, k < 4 → (sa k, listOf (sv k).toArray (sn k)) ∈ stSeg sa sv sn ++ tl := fun k hk => List.mem_append_left _ (seg_mem hk)
  refine turn_a (tl := (122, tabObj ps) :: (ST, listOf STv 0) :: (Ld, listOf Lv.toArray nL) :: (Ms, listOf Mv.toArray nM) :: (stSeg sa sv sn ++ tl)) G hA (by omega) F hm (News_pick N (pc (by k_mem) (pc (by k_mem) (pc (by k_mem) (pc (by k_mem) (pc (by k_mem) fun p hp => .tail _ (.tail _ (.tail _ (.tail _ (.tail _ hp)))))))))) hr (by omega) hrb
    fun h1 tk1 m1 x dx tkk vs n' tps tx F1 hm1 N1 hW hxd hxn hdn htp => ?_
  have hx122 : x ≠ 122 := Ne.symm (hxn (122, _) (.tail _ (.head _)))
  have hd122 : dx ≠ 122 := Ne.symm (hdn (122, _) (.tail _ (.head _)))
  have ht122 : ∀ p ∈ tps, p.1 ≠ 122 := fun p hp => Ne.symm ((htp p hp).2 (122, _) (.tail _ (.head _)))
  refine turn_b (s := ⟨h1, s.gens, s.drawn, tk1, s.os⟩) (ps := ps) (tps := tps) (tl := (ST, listOf STv 0) :: (Ld, listOf Lv.toArray nL) :: (Ms, listOf Mv.toArray nM) :: (stSeg sa sv sn ++ tl)) G hA hroom hun C hB hps F1 hm1
    (News_pick N1 (pc (.tail _ (.tail _ (.tail _ (List.mem_append_right _ (.head _))))) (pc (by k_mem) (pc (by k_mem) (pc (by k_mem) fun p hp => by
      rcases List.mem_append.mp hp with hp | hp
      · exact .tail _ (.tail _ (.tail _ (List.mem_append_left _ hp)))
      · exact .tail _ (.tail _ (.tail _ (List.mem_append_right _ (.tail _ hp))))))))) hW hr (by omega) hrb
    (nc hx122 (nc hd122 (nc (h122 (R, _) (.head _)) (na ht122 fun p hp => h122 p (.tail _ hp)))))
    fun h2 g2 d2 tk2 m2 ps2 hB2 hps2 F2 hm2 N2 => ?_
  refine turn_c (s := ⟨h2, g2, d2, tk2, s.os⟩) (tl := (122, tabObj ps2) :: (x, accObj dx vs.toArray n') :: (dx, accDict w tkk) :: (tps ++ ((ST, listOf STv 0) :: (Ld, listOf Lv.toArray nL) :: (stSeg sa sv sn ++ tl)))) G hA hroom F2 hm2
    (News_pick N2 (pc (.tail _ (.tail _ (.tail _ (.tail _ (List.mem_append_right _ (.tail _ (.tail _ (.head _)))))))) (pc (by k_mem) (pc (by k_mem) (pc (by k_mem) fun p hp => by
      rcases List.mem_append.mp hp with hp | hp
      · exact .tail _ (.tail _ (.tail _ (.tail _ (List.mem_append_left _ hp))))
      · refine .tail _ (.tail _ (.tail _ (.tail _ (List.mem_append_right _ ?_))))
        rcases List.mem_cons.mp hp with rfl | hp
        · exact .head _
        rcases List.mem_cons.mp hp with rfl | hp
        · exact .tail _ (.head _)
        · exact .tail _ (.tail _ (.tail _ hp))))))) (by omega) hmail hml hsp
    fun h3 tk3 m3 R1 RW rwv F3 hm3 N3 hrw ⟨hR1W, hMR1, hall⟩ => ?_
  have hallR : ∀ p ∈ (122, tabObj ps2) :: (x, accObj dx vs.toArray n') :: (dx, accDict w tkk) :: (tps ++ ((ST, listOf STv 0) :: (Ld, listOf Lv.toArray nL) :: (stSeg sa sv sn ++ tl))), p.1 < R1 := by
    have go : ∀ {l : List (Addr × Obj)}, AllLt R1 l → ∀ p ∈ l, p.1 < R1 := by
      intro l
      induction l with
      | nil => exact fun _ p hp => nomatch hp
      | cons q l ih =>
        rintro ⟨h, r⟩ p hp
        rcases List.mem_cons.mp hp with rfl | hp
        · exact h
        · exact ih r p hp
    exact go hall
  have lx : x < R1 := hallR (x, _) (.tail _ (.head _))
  have ldx : dx < R1 := hallR (dx, _) (.tail _ (.tail _ (.head _)))
  have l122 : 122 < R1 := hallR (122, _) (.head _)
  have ltps : ∀ p ∈ tps, p.1 < R1 := fun p hp => hallR p (.tail _ (.tail _ (.tail _ (List.mem_append_left _ hp))))
  have lST : ST < R1 := hallR (ST, _) (.tail _ (.tail _ (.tail _ (List.mem_append_right _ (.head _)))))
  have lLd : Ld < R1 := hallR (Ld, _) (.tail _ (.tail _ (.tail _ (List.mem_append_right _ (.tail _ (.head _))))))
  have lsa : ∀ k, k < 4 → sa k < R1 := fun k hk => hallR (sa k, _) (.tail _ (.tail _ (.tail _ (List.mem_append_right _ (.tail _ (.tail _ (hseg k hk)))))))
  have ltl : ∀ p ∈ tl, p.1 < R1 := fun p hp => hallR p (.tail _ (.tail _ (.tail _ (List.mem_append_right _ (.tail _ (.tail _ (List.mem_append_right _ hp)))))))
  have far : ∀ a, a < R1 → R1 ≠ a ∧ RW ≠ a := fun a ha => ⟨Nat.ne_of_gt ha, Nat.ne_of_gt (Nat.lt_trans ha hR1W)⟩
  refine turn_d (s := ⟨h3, g2, d2, tk3, s.os⟩) (la := la) (wd := wd) (nr := nr) (st0 := st0) (tps := tps) (tl := tps ++ ((122, tabObj ps2) :: (Ms, listOf Mv.toArray nM) :: tl)) G hA hroom hun F3
    (by obtain ⟨k1, k2, k3, k4, k5, k6, k7, k8, k9, k10⟩ := hm3; exact ⟨k1, k2, k3, k4, k5, k6, k7, k8, k9, k10⟩)
    (News_pick N3 (l := (RW, listOf rwv.toArray 0) :: (R1, listOf #[] 0) :: (x, accObj dx vs.toArray n') :: (dx, accDict w tkk) :: (ST, listOf STv 0) :: (Ld, listOf Lv.toArray nL) :: (stSeg sa sv sn ++ (tps ++ ((122, tabObj ps2) :: (Ms, listOf Mv.toArray nM) :: tl))))
      (pc (by k_mem) (pc (by k_mem) (pc (by k_mem) (pc (by k_mem)
        (pc (.tail _ (.tail _ (.tail _ (.tail _ (.tail _ (.tail _ (List.mem_append_right _ (.head _)))))))) (pc (.tail _ (.tail _ (.tail _ (.tail _ (.tail _ (.tail _ (List.mem_append_right _ (.tail _ (.head _))))))))) fun p hp => by
          rcases List.mem_append.mp hp with hp | hp
          · exact .tail _ (.tail _ (.tail _ (.tail _ (.tail _ (.tail _ (List.mem_append_right _ (.tail _ (.tail _ (List.mem_append_left _ hp)))))))))
          rcases List.mem_append.mp hp with hp | hp
          · exact .tail _ (.tail _ (.tail _ (.tail _ (.tail _ (.tail _ (List.mem_append_left _ hp))))))
          rcases List.mem_cons.mp hp with rfl | hp
          · exact .tail _ (.tail _ (.tail _ (.head _)))
          rcases List.mem_cons.mp hp with rfl | hp
          · exact .tail _ (.tail _ (.head _))
          · exact .tail _ (.tail _ (.tail _ (.tail _ (.tail _ (.tail _ (List.mem_append_right _ (.tail _ (.tail _ (List.mem_append_right _ hp))))))))))))))))
    hrw rfl hnr hW (fun p hp => List.mem_append_left _ hp) hLv hla4 hla hrl hrb hw hst hsl hSI hinj
    ?hxn hxd ?hsn ?hRn fun h4 tk4 m4 R2 rv4 sv4 sn4 F4 hm4 N4 hrv4 hst4 n1 n2 n3 n4 n5 => ?_
  case hxn =>
    refine nc (far x lx).2 (nc (far x lx).1 (nc (hxn (ST, _) (.tail _ (.tail _ (.head _)))) (nc (hxn (Ld, _) (.tail _ (.tail _ (.tail _ (.head _))))) (na (fun p hp => ?_) (na (fun p hp => (htp p hp).1) (nc (Ne.symm hx122) (nc (hxn (Ms, _) (.tail _ (.tail _ (.tail _ (.tail _ (.head _)))))) fun p hp => ?_)))))))
    · exact hxn p (.tail _ (.tail _ (.tail _ (.tail _ (.tail _ (List.mem_append_left _ hp))))))
    · exact hxn p (.tail _ (.tail _ (.tail _ (.tail _ (.tail _ (List.mem_append_right _ hp))))))
  case hsn =>
    intro k hk
    have hsk : (sa k, listOf (sv k).toArray (sn k)) ∈ (R, listOf rv.toArray 0) :: (122, tabObj ps) :: (ST, listOf STv 0) :: (Ld, listOf Lv.toArray nL) :: (Ms, listOf Mv.toArray nM) :: (stSeg sa sv sn ++ tl) := .tail _ (.tail _ (.tail _ (.tail _ (.tail _ (hseg k hk)))))
    refine nc (far _ (lsa k hk)).2 (nc (far _ (lsa k hk)).1 (nc (Ne.symm (hdn _ hsk)) (nc (hsn k hk (ST, _) (.tail _ (.head _))) (nc (hsn k hk (Ld, _) (.tail _ (.tail _ (.head _)))) (na (fun p hp => Ne.symm ((htp p hp).2 _ hsk)) (nc (Ne.symm (h122 _ (.tail _ (.tail _ (.tail _ (.tail _ (hseg k hk))))))) (nc (hsn k hk (Ms, _) (.tail _ (.tail _ (.tail _ (.head _))))) fun p hp => hsn k hk p (.tail _ (.tail _ (.tail _ (.tail _ hp)))))))))))
  case hRn =>
    refine nc (Nat.ne_of_gt hR1W) (nc (Nat.ne_of_lt ldx) (nc (Nat.ne_of_lt lST) (nc (Nat.ne_of_lt lLd) (na (fun p hp => Nat.ne_of_lt (ltps p hp)) (nc (Nat.ne_of_lt l122) (nc (Nat.ne_of_lt hMR1) fun p hp => Nat.ne_of_lt (ltl p hp)))))))
  have hrr := row_len r wd nr
  refine turn_e (s := ⟨h4, g2, d2, tk4, s.os⟩) (x := x) (tl := (ST, listOf STv 0) :: (Ld, listOf Lv.toArray nL) :: (stSeg sa sv4 sn4 ++ (tps ++ ((122, tabObj ps2) :: (Ms, listOf Mv.toArray nM) :: tl)))) (t := (tn : Int)) (row := rowOf r wd nr) G hA hroom F4
    (by obtain ⟨k1, k2, k3, k4, k5, k6, k7, k8, k9, _⟩ := hm4; exact ⟨k1, k2, k3, k4, k5, k6, k8, k9, trivial⟩)
    (News_pick N4 (pc (by k_mem) (pc (by k_mem) (pc (by k_mem) (pc (by k_mem) fun p hp => .tail _ (.tail _ (.tail _ (.tail _ hp)))))))) hrv4 (by omega)
    (nc n2 (nc n3 (nc n4 (na (fun p hp => by obtain ⟨k, hk, rfl⟩ := seg_at hp; exact n1 k hk) n5)))) (sgs := ((List.range nr).map fun j => sgn (wd j)).reverse) hrw (by simp; omega) (by omega) (by omega) hun
    fun h5 tk5 m5 rv5 F5 hm5 N5 hrv5 => ?_
  refine hfin h5 g2 d2 tk5 m5 R2 rv5 sv4 sn4 ps2 hB2 hps2 F5 (by obtain ⟨k1, k2, k3, k4, k5, k6, k7, _⟩ := hm5; exact ⟨k1, k2, k3, k4, k7, k5, trivial⟩) ?_ hrv5 hst4 (Ne.symm (n5 (122, _) (List.mem_append_right _ (.head _)))) (fun k hk => Ne.symm (n1 k hk)) fun p hp => n5 p (List.mem_append_right _ (.tail _ (.tail _ hp)))
  refine News_pick N5 (pc ?_ (pc (by k_mem) (pc (by k_mem) (pc (by k_mem) (pc ?_ fun p hp => ?_)))))
  · exact .tail _ (.tail _ (.tail _ (.tail _ (List.mem_append_right _ (List.mem_append_right _ (.head _))))))
  · exact .tail _ (.tail _ (.tail _ (.tail _ (List.mem_append_right _ (List.mem_append_right _ (.tail _ (.head _)))))))
  · rcases List.mem_append.mp hp with hp | hp
    · exact .tail _ (.tail _ (.tail _ (.tail _ (List.mem_append_left _ hp))))
    · exact .tail _ (.tail _ (.tail _ (.tail _ (List.mem_append_right _ (List.mem_append_right _ (.tail _ (.tail _ hp)))))))
end
end
section
/- the part Law4 -/
open PySem PySem.W PyProof.Rows PySem.Spec PySem.Calls PySem.W.X
set_option maxRecDepth 100000
set_option maxHeartbeats 400000
set_option pp.deepTerms false
set_option pp.deepTerms.threshold 8
def stepRow (r : List Int) (wd : Nat → Nat) (nr : Nat) : List Int := psumN (rowOf r wd nr) ((rowOf r wd nr).length - 1)
/-- the row ahead of a turn, u turns done of M -/
def rowS (row0 : List Int) (wdT : Nat → Nat → Nat) (nrT : Nat → Nat) (M : Nat) : Nat → List Int
  | 0 => row0
  | u + 1 => stepRow (rowS row0 wdT nrT M u) (wdT (M - 1 - u)) (nrT (M - 1 - u))
def stS (row0 : List Int) (wdT : Nat → Nat → Nat) (nrT : Nat → Nat) (M : Nat) : Nat → Nat → List Int
  | 0, _ => []
  | u + 1, k => stAt (stS row0 wdT nrT M u) (rowS row0 wdT nrT M u) (wdT (M - 1 - u)) (nrT (M - 1 - u)) k
/-- what the loop over t needs to be told -/
structure Plan (ml : List (List Nat)) (la row0 : List Int) (wdT : Nat → Nat → Nat) (nrT : Nat → Nat) : Prop where
  few : ml.length ≤ 16
  marks : la.length = 4
  texts : ∀ t l, ml[t]? = some l → l.length ≤ 40000 ∧ Txt.split ⟨l.toArray⟩ (Str.ofString "\r\n") = rowsOf (wdT t) (nrT t) t
  rounds : ∀ t, t < ml.length → nrT t ≤ 4 ∧ ∀ j, j < nrT t → (t : Int) + 2 - la.getD j 0 = (wdT t j : Int) + 1
  rows : ∀ u, u < ml.length → (rowS row0 wdT nrT ml.length u).length ≤ 900 ∧ (∀ n ∈ rowS row0 wdT nrT ml.length u, n.natAbs < 10 ^ 60) ∧
    ∀ j, j < nrT (ml.length - 1 - u) → 1 ≤ wdT (ml.length - 1 - u) j ∧ wdT (ml.length - 1 - u) j ≤ (leftOf (rowS row0 wdT nrT ml.length u) (wdT (ml.length - 1 - u)) j).length
  struck : ∀ u, u < ml.length → ∀ k, k < 4 → (stS row0 wdT nrT ml.length u k).length ≤ 900
theorem TextsAre.at : ∀ {vs : List Value} {l : List (List Nat)}, TextsAre vs l → ∀ {t : Nat} {x : List Nat}, l[t]? = some x → ∃ u, vs[t]? = some (.str ⟨x.toArray⟩ u)
  | _, _, .nil, t, x, e => by simp at e
  | _, _, .cons y u h, 0, x, e => by simp at e; subst e; exact ⟨u, rfl⟩
  | _, _, .cons y u h, t + 1, x, e => by simpa using TextsAre.at h (by simpa using e)
theorem down_size {M : Nat} (h : M ≤ 16) : Builtin.Range.rangeSize ((M : Int) - 1) (-1) (-1) = (M : Int) := by
  have : ∀ M : Nat, M < 17 → Builtin.Range.rangeSize ((M : Int) - 1) (-1) (-1) = (M : Int) := by decide
  exact this M (by omega)
theorem down_small {M : Nat} (h : M ≤ 16) : Builtin.Range.small ((M : Int) - 1) (-1) (-1) = true := by
  have : ∀ M : Nat, M < 17 → Builtin.Range.small ((M : Int) - 1) (-1) (-1) = true := by decide
  exact this M (by omega)
section
variable {w : World} {A : Around} {s : Shared} {E : Value → Shared → Prop} {h₀ : Heap} {L : Addr} {m : Str → Option Value}
theorem law_d {Q : Flow → Shared → Prop} {Ms Ld ST R : Addr} {STv : Array Value} {sa : Nat → Addr} {sv : Nat → List Value} {sn : Nat → Nat} {wdT : Nat → Nat → Nat} {nrT : Nat → Nat} {rv Lv Mv : List Value} {ml : List (List Nat)} {row0 la : List Int} {nL nM : Nat} {a c : Int} {ta tc : Tok} {ps : Array Value} {tl : List (Addr × Obj)} (G : Gnd w h₀) (hA : A.handled = none) (hroom : A.depth + 4 < recursionLimit) (hun : A.units ≤ 2000)
    (C : CodeHd h₀ 126 122) (hB : AllBare s.gens) (hps : TriplesOk ps.toList) (P : Plan ml la row0 wdT nrT)
    (F : Fr h₀ L s.heap m) (hm : Knows m [("a", .int a ta), ("c", .int c tc), ("mails", .ref Ms), ("laid", .ref Ld), ("row", .ref R), ("struck", .ref ST)])
    (N : News h₀ L s.heap ((122, tabObj ps) :: (R, listOf rv.toArray 0) :: (ST, listOf STv 0) :: (Ld, listOf Lv.toArray nL) :: (Ms, listOf Mv.toArray nM) :: (stSeg sa sv sn ++ tl)))
    (hr : IntsAre rv row0) (hMv : TextsAre Mv ml) (hLv : IntsAre Lv la)
    (hst : ∀ k, k < 4 → IntsAre (sv k) []) (hSI : ∀ k, k < 4 → STv[k]? = some (.ref (sa k))) (hinj : ∀ k l, k < 4 → l < 4 → k ≠ l → sa k ≠ sa l)
    (h122 : ∀ p ∈ (R, listOf rv.toArray 0) :: (ST, listOf STv 0) :: (Ld, listOf Lv.toArray nL) :: (Ms, listOf Mv.toArray nM) :: (stSeg sa sv sn ++ tl), p.1 ≠ 122)
    (hsn : ∀ k, k < 4 → ∀ p ∈ (R, listOf rv.toArray 0) :: (ST, listOf STv 0) :: (Ld, listOf Lv.toArray nL) :: (Ms, listOf Mv.toArray nM) :: tl, p.1 ≠ sa k)
    (hfin : ∀ h' g' d' tk' m' sv' sn' ps', AllBare g' → Fr h₀ L h' m' → Knows m' [("a", .int a ta), ("c", .int c tc), ("struck", .ref ST)] → News h₀ L h' ((122, tabObj ps') :: (ST, listOf STv 0) :: (stSeg sa sv' sn' ++ tl)) → (∀ k, k < 4 → IntsAre (sv' k) (stS row0 wdT nrT ml.length ml.length k)) →
      wpAny (model PR w) A (execs (lawStmts.1.drop 12) (lawEnv L)) Q Never ⟨h', g', d', tk', s.os⟩) :
    wpAny (model PR w) A (execs (lawStmts.1.drop 11) (lawEnv L)) Q Never s := by
  walk_at "mineFill"
  have X := G.X
  obtain ⟨p, loose, mean, mg, mb, TT⟩ := G.T
  unfold lawEnv lawStmts lawScope
  simp only [List.drop]
  replace F := hm.fr F
  refine wpAny_execs_cons ?_
  refine for_ruleQ ?_ (fun _ => rfl)
  iterate 11 walk1
  have hM := P.few
  refine len_known (n := ml.length) ⟨_, (N (Ms, _) (by k_mem)).1, rfl, nM, rfl⟩ (by rw [List.size_toArray]; exact hMv.length) (by omega) fun tl' tkl => ?_
  iterate 12 walk1
  dsimp only at *
  have hr7 := ‹IsRange _ _ _ _ _ _ _ _›
  rename_i h7 tk7 _ _ _ aIs F7 N7 hk7
  refine wpAny_pyIter_range hr7 (down_small hM) ?_
  rw [down_size hM]
  have F8 := F7.push (riObj ((ml.length : Int) - 1) (ml.length : Int) (-1))
  have N8 := N7.push F7 (riObj ((ml.length : Int) - 1) (ml.length : Int) (-1))
  have kJ : ∀ p ∈ ((122 : Addr), tabObj ps) :: (R, listOf rv.toArray 0) :: (ST, listOf STv 0) :: (Ld, listOf Lv.toArray nL) :: (Ms, listOf Mv.toArray nM) :: (stSeg sa sv sn ++ tl), p.1 ≠ h7.objs.size := fun p hp => Nat.ne_of_lt (Heap.lt_size (N7 p hp).1)
  clear hr7 hk7 N7 aIs F7
  revert F8 N8 kJ
  dsimp only
  generalize h7.objs.size = J
  generalize h7.push (riObj ((ml.length : Int) - 1) (ml.length : Int) (-1)) = h8
  intro F8 N8 kJ
  have kJ1 : 122 ≠ J := kJ _ (.head _)
  have kJ2 : R ≠ J := kJ _ (.tail _ (.head _))
  have kJ3 : ST ≠ J := kJ _ (.tail _ (.tail _ (.head _)))
  have kJ4 : Ld ≠ J := kJ _ (.tail _ (.tail _ (.tail _ (.head _))))
  have kJ5 : Ms ≠ J := kJ _ (.tail _ (.tail _ (.tail _ (.tail _ (.head _)))))
  have kJ6 : ∀ k, k < 4 → sa k ≠ J := fun k hk => kJ (sa k, _) (.tail _ (.tail _ (.tail _ (.tail _ (.tail _ (List.mem_append_left _ (seg_mem hk)))))))
  have kJ7 : ∀ p ∈ tl, p.1 ≠ J := fun p hp => kJ p (.tail _ (.tail _ (.tail _ (.tail _ (.tail _ (List.mem_append_right _ hp))))))
  have kseg : ∀ (sv' : Nat → List Value) (sn' : Nat → Nat), ∀ p ∈ stSeg sa sv' sn' ++ tl, p.1 ≠ J := fun sv' sn' => na (fun p hp => by obtain ⟨k, hk, rfl⟩ := seg_at hp; exact kJ6 k hk) kJ7
  have k122 : ∀ (sv' : Nat → List Value) (sn' : Nat → Nat), ∀ p ∈ (ST, listOf STv 0) :: (Ld, listOf Lv.toArray nL) :: (Ms, listOf Mv.toArray nM) :: (stSeg sa sv' sn' ++ tl), p.1 ≠ 122 := fun sv' sn' => nc (h122 (ST, _) (.tail _ (.head _))) (nc (h122 (Ld, _) (.tail _ (.tail _ (.head _)))) (nc (h122 (Ms, _) (.tail _ (.tail _ (.tail _ (.head _))))) (na (fun p hp => by
    obtain ⟨k, hk, rfl⟩ := seg_at hp
    have q : sa k ≠ 122 := h122 (sa k, listOf (sv k).toArray (sn k)) (.tail _ (.tail _ (.tail _ (.tail _ (List.mem_append_left _ (seg_mem hk))))))
    exact q) fun p hp => h122 p (.tail _ (.tail _ (.tail _ (.tail _ (List.mem_append_right _ hp))))))))
  clear kJ
  refine ⟨0, fun k s' => ∃ (u : Nat) (h' : Heap) (g' : Array GenState) (d' : Drawn) (tk : Nat) (m : Str → Option Value) (R : Addr) (rv : List Value) (sv : Nat → List Value) (sn : Nat → Nat) (ps : Array Value), s' = ⟨h', g', d', tk, s.os⟩ ∧ AllBare g' ∧ TriplesOk ps.toList ∧ u ≤ ml.length ∧ k = ml.length - u ∧ Fr h₀ L h' m ∧
    Knows m [("a", .int a ta), ("c", .int c tc), ("mails", .ref Ms), ("laid", .ref Ld), ("row", .ref R), ("struck", .ref ST)] ∧
    News h₀ L h' ((J, riObj ((ml.length : Int) - 1 - u) ((ml.length : Int) - u) (-1)) :: (122, tabObj ps) :: (R, listOf rv.toArray 0) :: (ST, listOf STv 0) :: (Ld, listOf Lv.toArray nL) :: (Ms, listOf Mv.toArray nM) :: (stSeg sa sv sn ++ tl)) ∧
    IntsAre rv (rowS row0 wdT nrT ml.length u) ∧ (∀ k, k < 4 → IntsAre (sv k) (stS row0 wdT nrT ml.length u k)) ∧ R ≠ 122 ∧ R ≠ J ∧ (∀ k, k < 4 → R ≠ sa k), ml.length, Nat.zero_le _, ?_, ?_⟩
  · refine ⟨0, h8, _, _, _, _, R, rv, sv, sn, ps, rfl, hB, hps, Nat.zero_le _, rfl, F8, hm.kst, ?_, hr, hst, h122 (R, _) (.head _), kJ2, fun k hk => hsn k hk (R, _) (.head _)⟩
    have e1 : ((ml.length : Int) - 1 - ((0 : Nat) : Int)) = (ml.length : Int) - 1 := by omega
    have e2 : ((ml.length : Int) - ((0 : Nat) : Int)) = (ml.length : Int) := by omega
    rw [e1, e2]
    exact N8
  · clear F8 N8 hm hr hst h122
    rintro Qb k s' hQb htk ⟨u, h', g', d', tk, m, R', rv', sv', sn', ps', rfl, hB', hps', hu, rfl, F', hm, N', hrv, hst', hR1, hR2, hR3⟩
    by_cases hlt : u < ml.length
    · refine wpAny_pyNext_range_item (N' _ (.head _)).1 (by omega) fun h3 hit3 hs3 => ?_
      refine owned_name ?_
      obtain ⟨F3, N3⟩ := mut_frame (fun b o hb e => (hs3.2 b hb).trans e) hit3 F' N' (.head (nc kJ1 (nc hR2 (nc kJ3 (nc kJ4 (nc kJ5 (kseg sv' sn')))))))
      replace F3 := hm.fr F3
      refine wpAny_assign_Name ?_
      clear F' N' hs3
      have et : ((ml.length : Int) - 1 - u) = ((ml.length - 1 - u : Nat) : Int) := by omega
      rw [et]
      walk1
      have F4 := ‹Fr _ _ _ _›
      have N4 := ‹News _ _ _ _›
      have htl : ml.length - 1 - u < ml.length := by omega
      obtain ⟨mail, hmail⟩ : ∃ x, ml[ml.length - 1 - u]? = some x := ⟨_, List.getElem?_eq_getElem htl⟩
      obtain ⟨tmm, hMt⟩ := hMv.at hmail
      have e1 : ((ml.length - 1 - u : Nat) : Int) + -1 = (ml.length : Int) - 1 - ((u + 1 : Nat) : Int) := by omega
      have e2 : (ml.length : Int) - u - 1 = (ml.length : Int) - ((u + 1 : Nat) : Int) := by omega
      refine turn_all (sv := sv') (sn := sn') (tl := (J, riObj (((ml.length : Int) - 1 - u) + -1) ((ml.length : Int) - u - 1) (-1)) :: tl) (wd := wdT (ml.length - 1 - u)) (nr := nrT (ml.length - 1 - u)) (tn := ml.length - 1 - u) (st0 := stS row0 wdT nrT ml.length u) (r := rowS row0 wdT nrT ml.length u) (la := la) (mail := mail) (tmm := tmm) (ps := ps') G hA hroom hun C hB' hps' F4 ⟨rfl, rfl, rfl, rfl, rfl, rfl, rfl, trivial⟩
        (News_pick N4 (pc (by k_mem) (pc (by k_mem) (pc (by k_mem) (pc (by k_mem) (pc (by k_mem) fun p hp => ?_)))))) hrv (P.rows u hlt).1 (P.rows u hlt).2.1 (by omega) hMt (P.texts _ _ hmail).1 (P.texts _ _ hmail).2 (P.rounds _ htl).1 hLv P.marks (P.rounds _ htl).2 (P.rows u hlt).2.2 hst' (P.struck u hlt) hSI hinj
        (nc hR1 fun p hp => ?_) (fun k hk => nc (hR3 k hk) (nc (hsn k hk (ST, _) (.tail _ (.head _))) (nc (hsn k hk (Ld, _) (.tail _ (.tail _ (.head _)))) (nc (hsn k hk (Ms, _) (.tail _ (.tail _ (.tail _ (.head _))))) (nc (Ne.symm (kJ6 k hk)) fun p hp => hsn k hk p (.tail _ (.tail _ (.tail _ (.tail _ hp)))))))))
        fun h5 g5 d5 tk5 m5 R5 rv5 sv5 sn5 ps5 hB5 hps5 F5 hm5 N5 hrv5 hst5 c1 c2 c3 => ?_
      · rcases List.mem_append.mp hp with hp | hp
        · exact .tail _ (.tail _ (.tail _ (.tail _ (.tail _ (.tail _ (List.mem_append_left _ hp))))))
        · rcases List.mem_cons.mp hp with rfl | hp
          · exact .head _
          · exact .tail _ (.tail _ (.tail _ (.tail _ (.tail _ (.tail _ (List.mem_append_right _ hp))))))
      · rcases List.mem_cons.mp hp with rfl | hp
        · exact k122 sv sn _ (.head _)
        rcases List.mem_cons.mp hp with rfl | hp
        · exact k122 sv sn _ (.tail _ (.head _))
        rcases List.mem_cons.mp hp with rfl | hp
        · exact k122 sv sn _ (.tail _ (.tail _ (.head _)))
        rcases List.mem_append.mp hp with hp | hp
        · obtain ⟨k, hk, rfl⟩ := seg_at hp
          have q : sa k ≠ 122 := k122 sv sn (sa k, listOf (sv k).toArray (sn k)) (.tail _ (.tail _ (.tail _ (List.mem_append_left _ (seg_mem hk)))))
          exact q
        rcases List.mem_cons.mp hp with rfl | hp
        · exact Ne.symm kJ1
        · exact k122 sv sn p (.tail _ (.tail _ (.tail _ (List.mem_append_right _ hp))))
      · try dsimp only
        refine hQb _ ⟨_, Nat.sub_lt_sub_left hlt (Nat.lt_succ_self u), u + 1, h5, g5, d5, tk5, m5, R5, rv5, sv5, sn5, ps5, rfl, hB5, hps5, hlt, rfl, F5, hm5, ?_, hrv5, hst5, c1, Ne.symm (c3 (J, _) (.head _)), c2⟩
        rw [et, e1, e2] at N5
        refine News_pick N5 (pc ?_ (pc (by k_mem) (pc (by k_mem) (pc (by k_mem) (pc (by k_mem) (pc (by k_mem) fun p hp => ?_))))))
        · exact .tail _ (.tail _ (.tail _ (.tail _ (.tail _ (List.mem_append_right _ (.head _))))))
        · rcases List.mem_append.mp hp with hp | hp
          · exact .tail _ (.tail _ (.tail _ (.tail _ (.tail _ (List.mem_append_left _ hp)))))
          · exact .tail _ (.tail _ (.tail _ (.tail _ (.tail _ (List.mem_append_right _ (.tail _ hp))))))
    · have hue : u = ml.length := by omega
      subst hue
      refine wpAny_pyNext_range_end hA (N' _ (.head _)).1 (by omega) fun h3 hx => ?_
      obtain ⟨F3, N3⟩ := ext_frame hx (nc kJ1 (nc hR2 (nc kJ3 (nc kJ4 (nc kJ5 (kseg sv' sn')))))) F' N'
      replace F3 := hm.fr F3
      clear F' N'
      unfold Over
      dsimp only
      exact hfin _ _ _ _ _ sv' sn' ps' hB' F3 ⟨rfl, rfl, rfl, trivial⟩ (News_pick N3 (pc (by k_mem) (pc (by k_mem) fun p hp => .tail _ (.tail _ (.tail _ (.tail _ (.tail _ hp))))))) hst'
end
end
section
/- the part Law5 -/
open PySem PySem.W PyProof.Rows PySem.Spec PySem.Calls PySem.W.X
set_option maxRecDepth 100000
set_option maxHeartbeats 400000
set_option pp.deepTerms false
set_option pp.deepTerms.threshold 8
section
variable {w : World} {A : Around} {s : Shared} {E : Value → Shared → Prop} {h₀ : Heap} {L : Addr} {m : Str → Option Value}
theorem law_e {Q : Flow → Shared → Prop} {ST T : Addr} {STv : Array Value} {sa : Nat → Addr} {sv : Nat → List Value} {sn : Nat → Nat} {st : Nat → List Int} {tys : List Value} {tm : List Int} {nT : Nat} {o2 : Obj} {a c : Int} {ta tc : Tok} {tl : List (Addr × Obj)} (G : Gnd w h₀) (hA : A.handled = none) (hroom : A.depth + 4 < recursionLimit) (hun : A.units ≤ 2000)
    (F : Fr h₀ L s.heap m) (hm : Knows m [("a", .int a ta), ("c", .int c tc), ("struck", .ref ST)])
    (N : News h₀ L s.heap ((ST, listOf STv 0) :: (L + 2, o2) :: (T, listOf tys.toArray nT) :: (stSeg sa sv sn ++ tl)))
    (h2 : o2.data = .cell (some (.ref T))) (htys : IntsAre tys tm) (htl : tm.length = 4) (ht2 : ∀ x ∈ tm, 0 ≤ x ∧ x ≤ 2)
    (hst : ∀ k, k < 4 → IntsAre (sv k) (st k)) (hSI : ∀ k, k < 4 → STv[k]? = some (.ref (sa k)))
    (hlaw : ∀ k, k < 4 → st k = toldAt a c (tm.take (k + 1)) (k + 1))
    (hfin : ∀ h' tk' m', Fr h₀ L h' m' → News h₀ L h' ((ST, listOf STv 0) :: (L + 2, o2) :: (T, listOf tys.toArray nT) :: (stSeg sa sv sn ++ tl)) → Q (.ret (.bool true)) { s with heap := h', toks := tk' }) :
    wpAny (model PR w) A (execs (lawStmts.1.drop 12) (lawEnv L)) Q Never s := by
  walk_at "mineFill"
  have X := G.X
  obtain ⟨p, loose, mean, mg, mb, TT⟩ := G.T
  unfold lawEnv lawStmts lawScope
  simp only [List.drop]
  replace F := hm.fr F
  refine wpAny_execs_cons ?_
  refine for_ruleQ ?_ (fun _ => rfl)
  iterate 7 walk1
  have hr := ‹IsRange _ _ _ _ _ _ _ _›
  rename_i h7 tk7 _ _ _ aIs F7 N7 hk7
  refine wpAny_pyIter_range hr (small_one (by omega) (by omega) (by omega) (by omega)) ?_
  have hsz : Builtin.Range.rangeSize 0 4 1 = ((4 : Nat) : Int) := by decide
  rw [hsz]
  have F8 := F7.push (riObj 0 ((4 : Nat) : Int) 1)
  have N8 := N7.push F7 (riObj 0 ((4 : Nat) : Int) 1)
  have kJ : ∀ p ∈ (ST, listOf STv 0) :: (L + 2, o2) :: (T, listOf tys.toArray nT) :: (stSeg sa sv sn ++ tl), p.1 ≠ h7.objs.size := fun p hp => Nat.ne_of_lt (Heap.lt_size (N7 p hp).1)
  clear hr hk7 N7 aIs F7
  revert F8 N8 kJ
  dsimp only
  generalize h7.objs.size = J
  generalize h7.push (riObj 0 ((4 : Nat) : Int) 1) = h8
  intro F8 N8 kJ
  have htyl := ‹IntsAre tys tm›
  have htk : ∀ i, i < 4 → (tm.take (i + 1)).length = i + 1 := fun i hi => by rw [List.length_take, htl]; omega
  have htr : ∀ i, ∀ j, 0 ≤ (tm.take (i + 1)).getD j 0 ∧ (tm.take (i + 1)).getD j 0 ≤ 2 := fun i j => by
    rw [List.getD_eq_getElem?_getD]
    cases e : (tm.take (i + 1))[j]? with
    | none => decide
    | some v => exact ht2 v (List.mem_of_mem_take (List.mem_of_getElem? e))
  refine ⟨0, fun k s' => ∃ (i : Nat) (h' : Heap) (tk : Nat) (m : Str → Option Value), s' = { s with heap := h', toks := tk } ∧ i ≤ 4 ∧ k = 4 - i ∧ Fr h₀ L h' m ∧
    Knows m [("a", .int a ta), ("c", .int c tc), ("struck", .ref ST)] ∧
    News h₀ L h' ((J, riObj (i : Int) ((4 : Int) - i) 1) :: (ST, listOf STv 0) :: (L + 2, o2) :: (T, listOf tys.toArray nT) :: (stSeg sa sv sn ++ tl)), 4, Nat.zero_le _, ?_, ?_⟩
  · exact ⟨0, h8, _, _, rfl, Nat.zero_le _, rfl, F8, hm.kst, N8⟩
  · clear F8 N8 hm
    rintro Qb k s' hQb htk0 ⟨i, h', tk, m, rfl, hi, rfl, F', hm, N'⟩
    by_cases hlt : i < 4
    · refine wpAny_pyNext_range_item (N' _ (.head _)).1 (by omega) fun h3 hit3 hs3 => ?_
      refine owned_name ?_
      obtain ⟨F3, N3⟩ := mut_frame (fun b o hb e => (hs3.2 b hb).trans e) hit3 F' N' (.head kJ)
      replace F3 := hm.fr F3
      refine wpAny_assign_Name ?_
      clear F' N' hs3
      walk1
      refine wpAny_execs_cons ?_
      iterate 5 walk1
      have F4 := ‹Fr _ _ _ _›
      have N4 := ‹News _ _ _ _›
      refine item_sub ⟨_, (N4 (ST, _) (by k_mem)).1, rfl, 0, rfl⟩ (by omega) (by omega) (by rw [Int.toNat_natCast]; exact hSI i hlt) ?_
      clear F4 N4
      iterate 18 walk1
      have F4 := ‹Fr _ _ _ _›
      have N4 := ‹News _ _ _ _›
      rename_i h5 _ _
      have hTl : h5.IsList T tys.toArray := ⟨_, (N4 (T, _) (by k_mem)).1, rfl, nT, rfl⟩
      refine slice_known (F4.push _) (N4.grown fun b o e => Heap.get?_push_of_some _ e) (hTl.push _) (Heap.IsSliceOf.new ..) .none (.int _ _) .none (by decide) (by rw [List.size_toArray, htyl.length, htl, sizeLine_eq]; decide) (fun K1 h6 F6 N6 lK1 => ?_) (ops := _) (by with_unfolding_all rfl)
      clear F4 N4 hTl
      have hpk := slice_ints_uptoW htyl (y := (i : Int) + 1) (by omega)
      have ei : ((i : Int) + 1).toNat = i + 1 := by omega
      rw [ei] at hpk
      revert hpk N6
      generalize slicePick tys.toArray none (some ((i : Int) + 1)) none = pk
      intro N6 hpk
      iterate 2 walk1
      have F7 := ‹Fr _ _ _ _›
      have N7 := ‹News _ _ _ _›
      clear F6 N6
      refine told_call (ts := tm.take (i + 1)) (vs := pk.toList) (G.keeps F7.keep) (by omega) hA ⟨_, (N7 (K1, _) (.head _)).1, rfl, 0, by simp⟩ hpk (by rw [htk i hlt]; omega) (htr i) fun D ys hys h9 tk9 hk9 ⟨nD, hD⟩ => ?_
      obtain ⟨F9, N9⟩ := kept_frame hk9 F7 N7
      clear F7 N7 hk9
      rw [htk i hlt] at hys
      have hsti := hst i hlt
      rw [hlaw i hlt] at hsti
      have R1 := reads_of_ints (h := h9) (a := sa i) ⟨_, (N9 (sa i, _) (.tail _ (.tail _ (.tail _ (.tail _ (.tail _ (List.mem_append_left _ (seg_mem hlt)))))))).1, rfl, sn i, rfl⟩ hsti
      have R2 := reads_of_ints (h := h9) (a := D) ⟨_, hD, rfl, nD, rfl⟩ hys
      refine SeqAt.compareNe_shaped R1 R2 (shaped_ints _) (shaped_ints _) (by show _ < 9900; omega) ?_
      rw [ints_self]
      iterate 3 walk1
      dsimp only
      refine wpAny_execs_nil ?_
      try dsimp only
      have er : ((4 : Int) - i - 1) = (4 : Int) - ((i + 1 : Nat) : Int) := by omega
      have eq1 : ((i : Int) + 1) = ((i + 1 : Nat) : Int) := by omega
      rw [er, eq1] at N9
      exact hQb _ ⟨_, Nat.sub_lt_sub_left hlt (Nat.lt_succ_self i), i + 1, h9, tk9, _, rfl, hlt, rfl, F9, ⟨rfl, rfl, rfl, trivial⟩, fun p hp => N9 p (.tail _ hp)⟩
    · have hie : i = 4 := by omega
      subst hie
      refine wpAny_pyNext_range_end hA (N' _ (.head _)).1 (by omega) fun h3 hx => ?_
      obtain ⟨F3, N3⟩ := ext_frame hx kJ F' N'
      replace F3 := hm.fr F3
      clear F' N'
      unfold Over
      dsimp only
      iterate 3 walk1
      exact hfin _ _ _ F3 N3
end
end
section
/- the part Plain1 -/
open PySem PySem.W PyProof.Rows PySem.Spec PySem.Calls PySem.W.X
set_option maxRecDepth 100000
/-- rows with their ends, and the last row -/
def glue : List (List Nat × List Nat) → List Nat → List Nat
  | [], last => last
  | (r, s) :: rest, last => r ++ (s ++ glue rest last)
abbrev Clean (r : List Nat) : Prop := 13 ∉ r ∧ 10 ∉ r
abbrev isEol (s : List Nat) : Prop := s = [10] ∨ s = [13] ∨ s = [13, 10]
def Good : List (List Nat × List Nat) → List Nat → Prop
  | [], last => Clean last
  | (r, s) :: rest, last => Clean r ∧ isEol s ∧ (s = [13] → (glue rest last).head? ≠ some 10) ∧ Good rest last
def dot (r : List Nat) : List Nat := if r.head? = some 46 then 46 :: r else r
def crlf (rs : List (List Nat)) (last : List Nat) : List Nat := glue (rs.map fun r => (r, [13, 10])) last
theorem nl_clean : ∀ {r x : List Nat}, Clean r → nlFrom false (r ++ x) = r ++ nlFrom false x
  | [], _, _ => rfl
  | c :: r, x, h => by
    have h13 : ¬ c = 13 := fun e => h.1 (e ▸ .head _)
    have h10 : ¬ c = 10 := fun e => h.2 (e ▸ .head _)
    show nlFrom false (c :: (r ++ x)) = _
    rw [nlFrom, if_neg h13, if_neg h10, nl_clean ⟨fun e => h.1 (.tail _ e), fun e => h.2 (.tail _ e)⟩]
    rfl
theorem nl_glue : ∀ {ls : List (List Nat × List Nat)} {last : List Nat}, Good ls last → nlFrom false (glue ls last) = crlf (ls.map (·.1)) last
  | [], last, h => by
    have := nl_clean (x := []) (show Clean last from h)
    simpa [nlFrom, glue, crlf] using this
  | (r, s) :: rest, last, ⟨hr, hs, hc, hg⟩ => by
    show nlFrom false (r ++ (s ++ glue rest last)) = r ++ ([13, 10] ++ crlf (rest.map (·.1)) last)
    rw [nl_clean hr, ← nl_glue hg]
    congr 1
    rcases hs with rfl | rfl | rfl
    · show nlFrom false (10 :: glue rest last) = _
      rw [nlFrom, if_neg (by decide), if_pos rfl, if_neg (by decide)]
      rfl
    · show nlFrom false (13 :: glue rest last) = _
      rw [nlFrom, if_pos rfl, nlFrom_true (hc rfl)]
      rfl
    · show nlFrom false (13 :: 10 :: glue rest last) = _
      rw [nlFrom, if_pos rfl, nlFrom, if_neg (by decide), if_pos rfl, if_pos rfl]
      rfl
theorem dq_clean : ∀ {r x : List Nat}, 10 ∉ r → dqFrom false (r ++ 13 :: 10 :: x) = r ++ 13 :: 10 :: dqFrom true x
  | [], x, _ => by
    show dqFrom false (13 :: 10 :: x) = _
    rw [dqFrom, if_neg (by decide), dqFrom, if_neg (by decide)]
    rfl
  | c :: r, x, h => by
    have h10 : (c == 10) = false := by simpa using fun e : c = 10 => h (e ▸ .head _)
    show dqFrom false (c :: (r ++ 13 :: 10 :: x)) = _
    rw [dqFrom, if_neg (fun e => Bool.false_ne_true e.1), h10, dq_clean fun e => h (.tail _ e)]
    rfl
theorem dq_last : ∀ {r : List Nat}, 10 ∉ r → dqFrom false r = r
  | [], _ => rfl
  | c :: r, h => by
    have h10 : (c == 10) = false := by simpa using fun e : c = 10 => h (e ▸ .head _)
    rw [dqFrom, if_neg (fun e => Bool.false_ne_true e.1), h10, dq_last fun e => h (.tail _ e)]
theorem dq_row {r x : List Nat} (h : 10 ∉ r) : dqFrom true (r ++ 13 :: 10 :: x) = dot r ++ 13 :: 10 :: dqFrom true x := by
  cases r with
  | nil =>
    show dqFrom true (13 :: 10 :: x) = _
    rw [dqFrom, if_neg (by decide), dqFrom, if_neg (by decide)]
    rfl
  | cons c r =>
    have hr : 10 ∉ r := fun e => h (.tail _ e)
    show dqFrom true (c :: (r ++ 13 :: 10 :: x)) = _
    by_cases hc : c = 46
    · subst hc
      rw [dqFrom, if_pos ⟨rfl, rfl⟩, dq_clean hr]
      rfl
    · have h10 : (c == 10) = false := by simpa using fun e : c = 10 => h (e ▸ .head _)
      rw [dqFrom, if_neg (fun e => hc e.2), h10, dq_clean hr]
      simp [dot, hc]
theorem dq_end {r : List Nat} (h : 10 ∉ r) : dqFrom true r = dot r := by
  cases r with
  | nil => rfl
  | cons c r =>
    have hr : 10 ∉ r := fun e => h (.tail _ e)
    by_cases hc : c = 46
    · subst hc
      rw [dqFrom, if_pos ⟨rfl, rfl⟩, dq_last hr]
      rfl
    · have h10 : (c == 10) = false := by simpa using fun e : c = 10 => h (e ▸ .head _)
      rw [dqFrom, if_neg (fun e => hc e.2), h10, dq_last hr]
      simp [dot, hc]
theorem dq_crlf : ∀ {rs : List (List Nat)} {last : List Nat}, (∀ r ∈ rs, 10 ∉ r) → 10 ∉ last → dqFrom true (crlf rs last) = crlf (rs.map dot) (dot last)
  | [], last, _, h => dq_end h
  | r :: rs, last, hr, h => by
    show dqFrom true (r ++ 13 :: 10 :: crlf rs last) = dot r ++ 13 :: 10 :: crlf (rs.map dot) (dot last)
    rw [dq_row (hr r (.head _)), dq_crlf (fun q hq => hr q (.tail _ hq)) h]
/-- a text with these rows, its ends as they are -/
structure Inv (l : List Nat) (rs : List (List Nat)) (last : List Nat) : Prop where
  led : ∃ ls, l = glue ls last ∧ ls.map (·.1) = rs ∧ Good ls last
  clean : (∀ r ∈ rs, Clean r) ∧ Clean last
  head : l.head? ≠ some 10
theorem Inv.quote {l : List Nat} {rs : List (List Nat)} {last : List Nat} (h : Inv l rs last) : quoted l = crlf (rs.map dot) (dot last) := by
  obtain ⟨⟨ls, rfl, hrs, hg⟩, hc, _⟩ := h
  unfold quoted
  rw [nl_glue hg, hrs, dq_crlf (fun r hr => (hc.1 r hr).2) hc.2.2]
theorem clean_dot {r : List Nat} (h : Clean r) : Clean (dot r) := by
  unfold dot
  split
  · have m : ∀ c, c ≠ 46 → c ∉ r → c ∉ 46 :: r := fun c hc hr e => by
      rcases List.mem_cons.mp e with e | e
      · exact hc e
      · exact hr e
    exact ⟨m 13 (by decide) h.1, m 10 (by decide) h.2⟩
  · exact h
theorem Inv.ofCrlf {rs : List (List Nat)} {last : List Nat} (hc : (∀ r ∈ rs, Clean r) ∧ Clean last) : Inv (crlf rs last) rs last where
  led := by
    refine ⟨rs.map fun r => (r, [13, 10]), rfl, by rw [List.map_map]; exact List.map_id' _, ?_⟩
    obtain ⟨hc, hl⟩ := hc
    induction rs with
    | nil => exact hl
    | cons r rs ih =>
      refine ⟨hc r (.head _), .inr (.inr rfl), fun e => ?_, ih fun q hq => hc q (.tail _ hq)⟩
      exact absurd e (by decide)
  clean := hc
  head := by
    have hd : ∀ {r : List Nat}, Clean r → r.head? ≠ some 10 := fun {r} h e => h.2 (List.mem_of_mem_head? e)
    cases rs with
    | nil => exact hd hc.2
    | cons r rs =>
      cases r with
      | nil => exact fun e => absurd (Option.some.inj e) (by decide)
      | cons c r => exact fun e => hd (hc.1 (c :: r) (.head _)) e
theorem Inv.step {l : List Nat} {rs : List (List Nat)} {last : List Nat} (h : Inv l rs last) : Inv (quoted l) (rs.map dot) (dot last) := by
  rw [h.quote]
  refine .ofCrlf ⟨fun r hr => ?_, clean_dot h.clean.2⟩
  obtain ⟨q, hq, rfl⟩ := List.mem_map.mp hr
  exact clean_dot (h.clean.1 q hq)
theorem Inv.more {l e : List Nat} {rs : List (List Nat)} {last : List Nat} (h : Inv l rs last) (he : isEol e) : Inv (46 :: 120 :: (e ++ l)) ([46, 120] :: rs) last where
  led := by
    obtain ⟨ls, e1, e2, hg⟩ := h.led
    exact ⟨([46, 120], e) :: ls, by rw [e1]; rfl, by rw [List.map_cons, e2], ⟨by decide, by decide⟩, he, fun _ => by rw [← e1]; exact h.head, hg⟩
  clean := by
    refine ⟨fun r hr => ?_, h.clean.2⟩
    rcases List.mem_cons.mp hr with rfl | hr
    · exact ⟨by decide, by decide⟩
    · exact h.clean.1 r hr
  head := by show some 46 ≠ some 10; decide
theorem Inv.base : Inv [13, 120, 46, 10, 46] [[], [120, 46]] [46] where
  led := by
    refine ⟨[([], [13]), ([120, 46], [10])], rfl, rfl, ⟨by decide, by decide⟩, .inr (.inl rfl), fun _ => ?_, ⟨by decide, by decide⟩, .inl rfl, fun e => ?_, ⟨by decide, by decide⟩⟩
    · decide
    · exact absurd e (by decide)
  clean := by
    refine ⟨fun r hr => ?_, by decide, by decide⟩
    rcases List.mem_cons.mp hr with rfl | hr
    · exact ⟨by decide, by decide⟩
    rcases List.mem_cons.mp hr with rfl | hr
    · exact ⟨by decide, by decide⟩
    cases hr
  head := by decide
theorem glue_len : ∀ {ls : List (List Nat × List Nat)} {last : List Nat}, Good ls last → (glue ls last).length ≤ ((ls.map (·.1)).map fun r => r.length + 2).sum + last.length
  | [], last, _ => by simp [glue]
  | (r, s) :: rest, last, ⟨_, hs, _, hg⟩ => by
    have ih := glue_len hg
    have hsl : s.length ≤ 2 := by rcases hs with rfl | rfl | rfl <;> decide
    rw [glue, List.length_append, List.length_append, List.map_cons, List.map_cons, List.sum_cons]
    show r.length + _ ≤ r.length + 2 + _ + _
    omega
theorem Inv.len {l : List Nat} {rs : List (List Nat)} {last : List Nat} (h : Inv l rs last) : l.length ≤ (rs.map fun r => r.length + 2).sum + last.length := by
  obtain ⟨ls, e1, e2, hg⟩ := h.led
  have := glue_len hg
  rw [← e1, e2] at this
  exact this
end
section
/- the part Plain2 -/
open PySem PySem.W PyProof.Rows PySem.Spec PySem.Calls PySem.W.X PySem.StrLaws PySem.Builtin.Str
set_option maxRecDepth 100000
abbrev CR : Str := ⟨#[13, 10]⟩
theorem at_iff {x : Str} {k : Nat} : At x CR x.length k ↔ ∃ r, x.cps.toList.drop k = 13 :: 10 :: r := by
  unfold At
  have e : subAt x CR k = true ↔ (x.cps.toList.drop k).take 2 = [13, 10] := by
    show (x.cps.extract k (k + 2) == #[13, 10]) = true ↔ _
    rw [beq_iff_eq, ← Array.toList_inj, Array.toList_extract, List.extract_eq_take_drop, Nat.add_sub_cancel_left]
  rw [e]
  have hl : x.length = x.cps.toList.length := Array.length_toList.symm
  rw [hl]
  generalize x.cps.toList = l
  constructor
  · rintro ⟨_, h⟩
    refine ⟨(l.drop k).drop 2, ?_⟩
    have := List.take_append_drop 2 (l.drop k)
    rw [h] at this
    exact this.symm
  · rintro ⟨r, h⟩
    refine ⟨?_, by rw [h]; rfl⟩
    have := congrArg List.length h
    rw [List.length_drop, List.length_cons, List.length_cons] at this
    show k + 2 ≤ _
    omega
theorem parts_crlf {x : Str} : ∀ {rs : List (List Nat)} {last : List Nat} {a f : Nat} {cuts : List Nat}, (∀ r ∈ rs, Clean r) → Clean last → x.cps.toList.drop a = crlf rs last → a ≤ x.length → ChainG x CR x.length a cuts f → (∀ k, f ≤ k → ¬ At x CR x.length k) →
    partsFrom x 2 a cuts = (rs ++ [last]).map fun r => ⟨r.toArray⟩
  | [], last, a, f, cuts, _, hl, he, ha, hg, hn => by
    have hno : ∀ k, a ≤ k → ¬ At x CR x.length k := fun k hk h => by
      obtain ⟨r, e⟩ := at_iff.mp h
      have : x.cps.toList.drop k = last.drop (k - a) := by
        have h2 : x.cps.toList.drop k = (x.cps.toList.drop a).drop (k - a) := by rw [List.drop_drop]; congr 1; omega
        rw [h2, he]; rfl
      rw [this] at e
      exact hl.1 (List.mem_of_mem_drop (by rw [e]; exact .head _))
    cases cuts with
    | cons c cr => exact absurd hg.2.1 (hno c hg.1)
    | nil =>
      show [strSub x a x.length] = [⟨last.toArray⟩]
      congr 1
      have : (strSub x a x.length).cps.toList = last := by
        rw [strSub_toList, he]
        have hl2 : (crlf [] last).length = x.length - a := by
          rw [← he, List.length_drop, Array.length_toList]; rfl
        show (crlf [] last).take _ = _
        rw [← hl2, List.take_length]
        rfl
      rw [← this]
  | r :: rs, last, a, f, cuts, hc, hl, he, ha, hg, hn => by
    have hr := hc r (.head _)
    have hdrop : ∀ k, a ≤ k → x.cps.toList.drop k = (r ++ 13 :: 10 :: crlf rs last).drop (k - a) := fun k hk => by
      have h2 : x.cps.toList.drop k = (x.cps.toList.drop a).drop (k - a) := by rw [List.drop_drop]; congr 1; omega
      rw [h2, he]; rfl
    have hat : At x CR x.length (a + r.length) := by
      refine at_iff.mpr ⟨crlf rs last, ?_⟩
      rw [hdrop _ (Nat.le_add_right _ _), Nat.add_sub_cancel_left]
      exact List.drop_left
    have hnot : ∀ k, a ≤ k → k < a + r.length → ¬ At x CR x.length k := fun k h1 h2 h => by
      obtain ⟨q, e⟩ := at_iff.mp h
      rw [hdrop k h1, List.drop_append_of_le_length (by omega)] at e
      have h3 : k - a < r.length := by omega
      rw [List.drop_eq_getElem_cons h3] at e
      have e' : r[k - a] = 13 := (List.cons.inj e).1
      exact hr.1 (e' ▸ List.getElem_mem h3)
    cases cuts with
    | nil =>
      have hf : f = a := hg
      exact absurd hat (hn _ (by omega))
    | cons c cr =>
      obtain ⟨h1, h2, h3, h4⟩ := hg
      have hce : c = a + r.length := by
        rcases Nat.lt_trichotomy c (a + r.length) with h | h | h
        · exact absurd h2 (hnot c h1 h)
        · exact h
        · exact absurd hat (h3 _ (Nat.le_add_right _ _) h)
      subst hce
      show strSub x a (a + r.length) :: partsFrom x 2 (a + r.length + 2) cr = _
      have hlen : a + r.length + 2 ≤ x.length := hat.1
      rw [parts_crlf (rs := rs) (fun q hq => hc q (.tail _ hq)) hl ?_ hlen h4 hn]
      · show _ = (⟨r.toArray⟩ : Str) :: _
        congr 1
        have : (strSub x a (a + r.length)).cps.toList = r := by
          rw [strSub_toList, he, Nat.add_sub_cancel_left]
          exact List.take_left
        have h9 := congrArg List.toArray this
        rw [Array.toArray_toList] at h9
        exact congrArg Str.mk h9
      · rw [hdrop _ (by omega)]
        have e2 : a + r.length + 2 - a = r.length + 2 := by omega
        rw [e2, ← List.drop_drop, List.drop_left]
        rfl
theorem split_crlf {rs : List (List Nat)} {last : List Nat} (hc : ∀ r ∈ rs, Clean r) (hl : Clean last) (hne : rs ≠ []) : Txt.split ⟨(crlf rs last).toArray⟩ (Str.ofString "\r\n") = (rs ++ [last]).map fun r => ⟨r.toArray⟩ := by
  have e : Str.ofString "\r\n" = CR := by kernel_rfl
  rw [e]
  obtain ⟨f, hg, hn⟩ := occ_tight ⟨(crlf rs last).toArray⟩ CR (by decide)
  have key := parts_crlf (x := ⟨(crlf rs last).toArray⟩) (a := 0) hc hl (by simp) (Nat.zero_le _) hg hn
  unfold Txt.split
  have hlen : 2 ≤ (⟨(crlf rs last).toArray⟩ : Str).length := by
    show 2 ≤ (crlf rs last).toArray.size
    rw [List.size_toArray]
    cases rs with
    | nil => exact absurd rfl hne
    | cons r rs =>
      show 2 ≤ (r ++ (13 :: 10 :: crlf rs last)).length
      rw [List.length_append, List.length_cons, List.length_cons]
      omega
  have hk : ¬ Builtin.Str.strKind ⟨(crlf rs last).toArray⟩ < Builtin.Str.strKind CR := by
    have h1 : Builtin.Str.strKind CR = 1 := by decide +kernel
    rw [h1]
    unfold Builtin.Str.strKind
    split
    · decide
    split
    · decide
    · decide
  have hc0 : (decide ((⟨(crlf rs last).toArray⟩ : Str).length < CR.length) || decide (Builtin.Str.strKind ⟨(crlf rs last).toArray⟩ < Builtin.Str.strKind CR)) = false := by
    rw [Bool.or_eq_false_iff]
    exact ⟨decide_eq_false (by show ¬ _ < 2; omega), decide_eq_false hk⟩
  rw [hc0, if_neg Bool.false_ne_true]
  split
  · rename_i hempty
    rw [List.isEmpty_iff] at hempty
    rw [hempty] at key
    rw [← key]
    show _ = [strSub _ 0 _]
    rw [sub_whole]
  · rw [partsBetween_eq]
    exact key
end
section
/- the part Plain3 -/
open PySem PySem.W PyProof.Rows PySem.Spec PySem.Calls PySem.W.X
set_option maxRecDepth 100000
def laidN (cs : Nat → Nat) : Nat → Nat
  | 0 => 0
  | j + 1 => laidN cs j + cs j
theorem laid_mono (cs : Nat → Nat) {i j : Nat} (h : i ≤ j) : laidN cs i ≤ laidN cs j := by
  induction h with
  | refl => exact Nat.le_refl _
  | step _ ih => exact Nat.le_trans ih (Nat.le_add_right _ _)
def Xr (k : Nat) : List Nat := List.replicate k 46 ++ [120]
def Dr (k : Nat) : List Nat := List.replicate k 46
theorem dot_X {k : Nat} (h : 1 ≤ k) : dot (Xr k) = Xr (k + 1) := by
  obtain ⟨n, rfl⟩ : ∃ n, k = n + 1 := ⟨k - 1, by omega⟩
  unfold dot Xr
  rw [if_pos (by simp [List.replicate_succ])]
  rfl
theorem dot_D {k : Nat} (h : 1 ≤ k) : dot (Dr k) = Dr (k + 1) := by
  obtain ⟨n, rfl⟩ : ∃ n, k = n + 1 := ⟨k - 1, by omega⟩
  unfold dot Dr
  rw [if_pos (by simp [List.replicate_succ])]
  rfl
theorem clean_X (k : Nat) : Clean (Xr k) := by
  have h : ∀ c, c ≠ 46 → c ≠ 120 → c ∉ Xr k := fun c h1 h2 e => by
    rcases List.mem_append.mp e with e | e
    · exact h1 (List.eq_of_mem_replicate e)
    · exact h2 (List.mem_singleton.mp e)
  exact ⟨h 13 (by decide) (by decide), h 10 (by decide) (by decide)⟩
theorem clean_D (k : Nat) : Clean (Dr k) := by
  have h : ∀ c, c ≠ 46 → c ∉ Dr k := fun c h1 e => h1 (List.eq_of_mem_replicate e)
  exact ⟨h 13 (by decide), h 10 (by decide)⟩
/-- the rows after j rounds and τ quotings, the last left out -/
def RWs (cs : Nat → Nat) (j τ : Nat) : List (List Nat) := ((List.range j).map fun i => Xr (1 + τ - laidN cs i)).reverse ++ [[], [120, 46]]
theorem RWs_dot {cs : Nat → Nat} {j τ : Nat} (h : ∀ i, i < j → laidN cs i ≤ τ) : (RWs cs j τ).map dot = RWs cs j (τ + 1) := by
  unfold RWs
  rw [List.map_append, List.map_reverse, List.map_map]
  congr 1
  congr 1
  refine List.map_congr_left fun i hi => ?_
  have := h i (List.mem_range.mp hi)
  show dot (Xr (1 + τ - laidN cs i)) = Xr (1 + (τ + 1) - laidN cs i)
  rw [dot_X (by omega)]
  congr 1
  omega
theorem RWs_more (cs : Nat → Nat) (j : Nat) : RWs cs (j + 1) (laidN cs j) = [46, 120] :: RWs cs j (laidN cs j) := by
  unfold RWs
  rw [List.range_succ, List.map_append, List.reverse_append]
  show Xr (1 + laidN cs j - laidN cs j) :: _ = _
  rw [Nat.add_sub_cancel]
  rfl
section
variable {es : Nat → List Nat} {cs : Nat → Nat}
theorem inv_turn (he : ∀ j, isEol (es j)) {j : Nat} (h : Inv (layMail es cs j) (RWs cs j (laidN cs j)) (Dr (1 + laidN cs j))) : ∀ q, Inv (iter quoted q (46 :: 120 :: (es j ++ layMail es cs j))) (RWs cs (j + 1) (laidN cs j + q)) (Dr (1 + laidN cs j + q))
  | 0 => by
    have := h.more (he j)
    rw [← RWs_more] at this
    exact this
  | q + 1 => by
    have := (inv_turn he h q).step
    rw [RWs_dot fun i hi => Nat.le_trans (laid_mono cs (Nat.lt_succ_iff.mp hi)) (Nat.le_add_right _ _), dot_D (by omega)] at this
    exact this
theorem inv_mail (he : ∀ j, isEol (es j)) : ∀ j, Inv (layMail es cs j) (RWs cs j (laidN cs j)) (Dr (1 + laidN cs j))
  | 0 => Inv.base
  | j + 1 => by
    have := inv_turn he (inv_mail he j) (cs j)
    have e : 1 + laidN cs j + cs j = 1 + laidN cs (j + 1) := by rw [laidN]; omega
    rw [e] at this
    exact this
theorem text_turn (he : ∀ j, isEol (es j)) (j q : Nat) : iter quoted (q + 1) (46 :: 120 :: (es j ++ layMail es cs j)) = crlf (RWs cs (j + 1) (laidN cs j + q + 1)) (Dr (laidN cs j + q + 2)) := by
  have h := inv_turn (cs := cs) he (inv_mail he j) q
  show quoted _ = _
  rw [h.quote, RWs_dot fun i hi => Nat.le_trans (laid_mono cs (Nat.lt_succ_iff.mp hi)) (Nat.le_add_right _ _), dot_D (by omega)]
  congr 2
  omega
theorem RWs_sum (j τ : Nat) : ((RWs cs j τ).map fun r => r.length + 2).sum ≤ j * (τ + 4) + 6 := by
  unfold RWs
  rw [List.map_append, List.sum_append, List.map_reverse, List.sum_reverse, List.map_map]
  have h1 : ([([] : List Nat), [120, 46]].map fun r => r.length + 2).sum = 6 := rfl
  rw [h1]
  have h2 : ∀ l : List Nat, (l.map ((fun r : List Nat => r.length + 2) ∘ fun i => Xr (1 + τ - laidN cs i))).sum ≤ l.length * (τ + 4) := by
    intro l
    induction l with
    | nil => exact Nat.zero_le _
    | cons i l ih =>
      rw [List.map_cons, List.sum_cons, List.length_cons, Nat.succ_mul]
      have h3 : (Xr (1 + τ - laidN cs i)).length ≤ τ + 2 := by
        unfold Xr
        rw [List.length_append, List.length_replicate, List.length_singleton]
        omega
      show (Xr (1 + τ - laidN cs i)).length + 2 + _ ≤ _
      omega
  have h4 := h2 (List.range j)
  rw [List.length_range] at h4
  omega
theorem turn_len (he : ∀ j, isEol (es j)) {j q : Nat} (hj : j < 4) (hq : laidN cs j + q ≤ 16) : (iter quoted q (46 :: 120 :: (es j ++ layMail es cs j))).length ≤ 40000 := by
  have h1 := (inv_turn (cs := cs) he (inv_mail he j) q).len
  have h2 := RWs_sum (cs := cs) (j + 1) (laidN cs j + q)
  have h3 : (Dr (1 + laidN cs j + q)).length = 1 + laidN cs j + q := List.length_replicate
  have h4 : (j + 1) * (laidN cs j + q + 4) ≤ 4 * 20 := Nat.mul_le_mul (by omega) (by omega)
  omega
theorem mails_len : ∀ j, (layMails es cs j).length = laidN cs j
  | 0 => rfl
  | j + 1 => by rw [layMails, List.length_append, mails_len j, List.length_map, List.length_range]; rfl
theorem mail_at : ∀ {j t : Nat} {l : List Nat}, (layMails es cs j)[t]? = some l → ∃ i q, i < j ∧ q < cs i ∧ t = laidN cs i + q ∧ l = iter quoted (q + 1) (46 :: 120 :: (es i ++ layMail es cs i))
  | 0, t, l, e => by simp [layMails] at e
  | j + 1, t, l, e => by
    rw [layMails] at e
    by_cases h : t < (layMails es cs j).length
    · rw [List.getElem?_append_left h] at e
      obtain ⟨i, q, hi, r⟩ := mail_at e
      exact ⟨i, q, by omega, r⟩
    · rw [List.getElem?_append_right (Nat.not_lt.mp h), List.getElem?_map, mails_len] at e
      rw [mails_len] at h
      cases e2 : (List.range (cs j))[t - laidN cs j]? with
      | none => rw [e2] at e; cases e
      | some q =>
        rw [e2] at e
        have hq : q < cs j ∧ q = t - laidN cs j := by
          obtain ⟨h1, h2⟩ := List.getElem?_eq_some_iff.mp e2
          rw [List.length_range] at h1
          rw [List.getElem_range] at h2
          exact ⟨by omega, h2.symm⟩
        exact ⟨j, q, Nat.lt_succ_self j, hq.1, by omega, (Option.some.inj e).symm⟩
def nrOf (cs : Nat → Nat) (t : Nat) : Nat := if t < laidN cs 1 then 1 else if t < laidN cs 2 then 2 else if t < laidN cs 3 then 3 else 4
def wdOf (cs : Nat → Nat) (t j : Nat) : Nat := t + 1 - laidN cs j
theorem nr_at {i t : Nat} (hi : i < 4) (h1 : laidN cs i ≤ t) (h2 : t < laidN cs (i + 1)) : nrOf cs t = i + 1 := by
  have m1 := laid_mono cs (show 1 ≤ 2 by decide)
  have m2 := laid_mono cs (show 2 ≤ 3 by decide)
  unfold nrOf
  match i, hi with
  | 0, _ => rw [if_pos h2]
  | 1, _ => rw [if_neg (by omega), if_pos h2]
  | 2, _ => rw [if_neg (by omega), if_neg (by omega), if_pos h2]
  | 3, _ => rw [if_neg (by omega), if_neg (by omega), if_neg (by omega)]
theorem nr_four (t : Nat) : nrOf cs t ≤ 4 := by
  unfold nrOf
  split
  · decide
  split
  · decide
  split <;> decide
theorem nr_laid {t j : Nat} (ht : t < laidN cs 4) (h : j < nrOf cs t) : laidN cs j ≤ t := by
  have m1 := laid_mono cs (show 1 ≤ 2 by decide)
  have m2 := laid_mono cs (show 2 ≤ 3 by decide)
  have m0 : laidN cs 0 = 0 := rfl
  unfold nrOf at h
  split at h
  · have : j = 0 := by omega
    subst this; omega
  split at h
  · have : j = 0 ∨ j = 1 := by omega
    rcases this with rfl | rfl <;> omega
  split at h
  · have : j = 0 ∨ j = 1 ∨ j = 2 := by omega
    rcases this with rfl | rfl | rfl <;> omega
  · have : j = 0 ∨ j = 1 ∨ j = 2 ∨ j = 3 := by omega
    rcases this with rfl | rfl | rfl | rfl <;> omega
theorem mul_dots (n : Nat) : Txt.mul (Str.ofString ".") ((n : Int) + 2) = ⟨(Dr (n + 2)).toArray⟩ := by
  have e : Str.ofString "." = ⟨#[46]⟩ := by kernel_rfl
  rw [e]
  unfold Txt.mul
  rw [if_neg (by omega), if_neg ?_]
  · have fold : ∀ (k : Nat) (acc : Array Nat), (List.replicate k #[46]).foldl (· ++ ·) acc = acc ++ (List.replicate k 46).toArray := by
      intro k
      induction k with
      | zero => intro acc; simp
      | succ k ih =>
        intro acc
        rw [List.replicate_succ, List.foldl_cons, ih, List.replicate_succ]
        apply Array.ext'
        simp
    have e4 : ((n : Int) + 2).toNat = n + 2 := by omega
    rw [e4, fold]
    simp [Dr]
  · intro h
    simp only [Bool.or_eq_true, beq_iff_eq] at h
    rcases h with h | h
    · omega
    · exact absurd h (by decide)
theorem mail_rows (he : ∀ j, isEol (es j)) (hM : laidN cs 4 ≤ 16) {t : Nat} {l : List Nat} (e : (layMails es cs 4)[t]? = some l) : l.length ≤ 40000 ∧ Txt.split ⟨l.toArray⟩ (Str.ofString "\r\n") = rowsOf (wdOf cs t) (nrOf cs t) t := by
  obtain ⟨i, q, hi, hq, rfl, rfl⟩ := mail_at e
  have hle : laidN cs (i + 1) ≤ laidN cs 4 := laid_mono cs (by omega)
  have hs : laidN cs (i + 1) = laidN cs i + cs i := rfl
  refine ⟨turn_len he hi (by omega), ?_⟩
  rw [text_turn he, split_crlf, nr_at hi (Nat.le_add_right _ _) (by omega)]
  · unfold rowsOf RWs
    rw [List.map_append, List.map_append, List.map_reverse, List.map_map, List.append_assoc, mul_dots]
    congr 1
    · congr 1
      refine List.map_congr_left fun k hk => ?_
      have hk' : laidN cs k ≤ laidN cs i := laid_mono cs (Nat.lt_succ_iff.mp (List.mem_range.mp hk))
      show (⟨(Xr (1 + (laidN cs i + q + 1) - laidN cs k)).toArray⟩ : Str) = sgn (wdOf cs (laidN cs i + q) k)
      unfold sgn wdOf Xr
      congr 4
      omega
  · intro r hr
    rcases List.mem_append.mp hr with hr | hr
    · obtain ⟨k, _, rfl⟩ := List.mem_map.mp (List.mem_reverse.mp hr)
      exact clean_X _
    · rcases List.mem_cons.mp hr with rfl | hr
      · exact ⟨by decide, by decide⟩
      rcases List.mem_cons.mp hr with rfl | hr
      · exact ⟨by decide, by decide⟩
      cases hr
  · exact clean_D _
  · unfold RWs
    simp
theorem marks_at {j : Nat} (hj : j < 4) : (((List.range 4).map fun i => ((layMails es cs i).length : Int))).getD j 0 = (laidN cs j : Int) := by
  rw [List.getD_eq_getElem?_getD, List.getElem?_map, List.getElem?_range hj]
  show ((layMails es cs j).length : Int) = _
  rw [mails_len]
end
end
section
/- the part Plain4 -/
open PySem PySem.W PyProof.Rows PySem.Spec PySem.Calls PySem.W.X
set_option maxRecDepth 100000
/-- a number as p a + q c -/
abbrev P2 := Nat × Nat
def addP (x y : P2) : P2 := (x.1 + y.1, x.2 + y.2)
section
variable {α : Type}
def blkG (l : List α) (w : Nat) : List α := l.drop (l.length - w)
def leftG (r : List α) (wd : Nat → Nat) : Nat → List α
  | 0 => r
  | j + 1 => (leftG r wd j).take ((leftG r wd j).length - wd j)
def rowG (r : List α) (wd : Nat → Nat) : Nat → List α
  | 0 => []
  | j + 1 => (blkG (leftG r wd j) (wd j)).dropLast ++ rowG r wd j
def stG (z : α) (st0 : Nat → List α) (r : List α) (wd : Nat → Nat) : Nat → Nat → List α
  | 0, k => st0 k
  | j + 1, k => if k = 3 - j then stG z st0 r wd j k ++ [(blkG (leftG r wd j) (wd j)).getLastD z] else stG z st0 r wd j k
def runs (ad : α → α → α) : α → List α → List α
  | _, [] => []
  | acc, x :: r => ad acc x :: runs ad (ad acc x) r
def psum (ad : α → α → α) : List α → List α
  | [] => []
  | x :: r => x :: runs ad x r
end
theorem left_is (r : List Int) (wd : Nat → Nat) : ∀ j, leftOf r wd j = leftG r wd j
  | 0 => rfl
  | j + 1 => by rw [leftOf, leftG, left_is r wd j]
theorem row_is (r : List Int) (wd : Nat → Nat) : ∀ j, rowOf r wd j = rowG r wd j
  | 0 => rfl
  | j + 1 => by rw [rowOf, rowG, left_is r wd j, row_is r wd j]; rfl
theorem st_is (st0 : Nat → List Int) (r : List Int) (wd : Nat → Nat) (k : Nat) : ∀ j, stAt st0 r wd j k = stG 0 st0 r wd j k
  | 0 => rfl
  | j + 1 => by rw [stAt, stG, left_is r wd j, st_is st0 r wd k j]; rfl
section
variable {f : P2 → Int}
theorem left_map (r : List P2) (wd : Nat → Nat) : ∀ j, leftG (r.map f) wd j = (leftG r wd j).map f
  | 0 => rfl
  | j + 1 => by rw [leftG, leftG, left_map r wd j, List.length_map, List.map_take]
theorem blk_map (l : List P2) (w : Nat) : blkG (l.map f) w = (blkG l w).map f := by
  unfold blkG
  rw [List.length_map, List.map_drop]
theorem row_map (r : List P2) (wd : Nat → Nat) : ∀ j, rowG (r.map f) wd j = (rowG r wd j).map f
  | 0 => rfl
  | j + 1 => by rw [rowG, rowG, left_map r wd j, row_map r wd j, blk_map, List.map_append, List.map_dropLast]
theorem last_map (h0 : f (0, 0) = 0) (l : List P2) : (l.map f).getLastD 0 = f (l.getLastD (0, 0)) := by
  cases l with
  | nil => exact h0.symm
  | cons x r =>
    rw [List.getLastD_eq_getLast?, List.getLastD_eq_getLast?, List.getLast?_map]
    cases e : (x :: r).getLast? with
    | none => exact absurd (List.getLast?_eq_none_iff.mp e) (by simp)
    | some v => rfl
theorem st_map (h0 : f (0, 0) = 0) (st0 : Nat → List P2) (r : List P2) (wd : Nat → Nat) (k : Nat) : ∀ j, stG 0 (fun k => (st0 k).map f) (r.map f) wd j k = (stG (0, 0) st0 r wd j k).map f
  | 0 => rfl
  | j + 1 => by
    rw [stG, stG, st_map h0 st0 r wd k j, left_map r wd j, blk_map, last_map h0]
    split
    · rw [List.map_append]; rfl
    · rfl
theorem runs_map (ha : ∀ x y, f (addP x y) = f x + f y) : ∀ (acc : P2) (l : List P2), runs (· + ·) (f acc) (l.map f) = (runs addP acc l).map f
  | _, [] => rfl
  | acc, x :: r => by
    show (f acc + f x) :: runs (· + ·) (f acc + f x) (r.map f) = f (addP acc x) :: (runs addP (addP acc x) r).map f
    rw [← ha, runs_map ha]
theorem psum_map (ha : ∀ x y, f (addP x y) = f x + f y) (l : List P2) : psum (· + ·) (l.map f) = (psum addP l).map f := by
  cases l with
  | nil => rfl
  | cons x r =>
    show f x :: runs (· + ·) (f x) (r.map f) = f x :: (runs addP x r).map f
    rw [runs_map ha]
end
theorem runs_len (acc : Int) : ∀ l : List Int, (runs (· + ·) acc l).length = l.length
  | [] => rfl
  | x :: r => by rw [runs, List.length_cons, runs_len, List.length_cons]
theorem psum_len (l : List Int) : (psum (· + ·) l).length = l.length := by
  cases l with
  | nil => rfl
  | cons x r => rw [psum, List.length_cons, runs_len, List.length_cons]
theorem runs_get (acc : Int) : ∀ (l : List Int) (i : Nat), i + 1 < l.length → (runs (· + ·) acc l).getD (i + 1) 0 = (runs (· + ·) acc l).getD i 0 + l.getD (i + 1) 0
  | [], i, h => absurd h (Nat.not_lt_zero _)
  | x :: r, 0, h => by
    cases r with
    | nil => exact absurd h (Nat.lt_irrefl 1)
    | cons y r => rfl
  | x :: r, i + 1, h => by
    have := runs_get (acc + x) r i (Nat.lt_of_succ_lt_succ h)
    simpa [runs] using this
theorem psum_get (l : List Int) (i : Nat) (h : i + 1 < l.length) : (psum (· + ·) l).getD (i + 1) 0 = (psum (· + ·) l).getD i 0 + l.getD (i + 1) 0 := by
  cases l with
  | nil => exact absurd h (Nat.not_lt_zero _)
  | cons x r =>
    cases i with
    | zero =>
      cases r with
      | nil => exact absurd h (Nat.lt_irrefl 1)
      | cons y r => rfl
    | succ i =>
      have := runs_get x r i (Nat.lt_of_succ_lt_succ h)
      simpa [psum] using this
theorem psum_zero (l : List Int) : (psum (· + ·) l).getD 0 0 = l.getD 0 0 := by cases l <;> rfl
theorem psumN_get (l : List Int) : ∀ i, i < l.length → ∀ k, (psumN l i).getD k 0 = if k ≤ i then (psum (· + ·) l).getD k 0 else l.getD k 0
  | 0, _, k => by
    rw [psumN]
    cases k with
    | zero => rw [if_pos (Nat.le_refl _), psum_zero]
    | succ k => rw [if_neg (by omega)]
  | i + 1, hi, k => by
    have ih := psumN_get l i (by omega)
    have hl := psumN_len l i
    rw [psumN]
    have hset : ∀ (m : List Int) (j : Nat) (v : Int), j < m.length → (m.set j v).getD k 0 = if k = j then v else m.getD k 0 := by
      intro m j v hj
      rw [List.getD_eq_getElem?_getD, List.getD_eq_getElem?_getD, List.getElem?_set]
      by_cases e : j = k
      · subst e
        rw [if_pos rfl, if_pos rfl, if_pos hj]
        rfl
      · rw [if_neg e, if_neg (Ne.symm e)]
    rw [hset _ _ _ (by omega), ih i, ih (i + 1), ih k, if_pos (Nat.le_refl _), if_neg (by omega : ¬ i + 1 ≤ i)]
    by_cases e : k = i + 1
    · subst e
      rw [if_pos rfl, if_pos (Nat.le_refl _), psum_get l i hi]
    · rw [if_neg e]
      by_cases e2 : k ≤ i
      · rw [if_pos e2, if_pos (by omega)]
      · rw [if_neg e2, if_neg (by omega)]
theorem psumN_is (l : List Int) : psumN l (l.length - 1) = psum (· + ·) l := by
  cases hl : l.length with
  | zero => rw [List.length_eq_zero_iff.mp hl]; rfl
  | succ n =>
    have hg := psumN_get l n (by omega)
    refine List.ext_getElem (by rw [psumN_len, psum_len]) fun k h1 h2 => ?_
    have h3 : k ≤ n := by rw [psumN_len] at h1; omega
    have := hg k
    rw [if_pos h3, List.getD_eq_getElem?_getD, List.getD_eq_getElem?_getD, List.getElem?_eq_getElem h2] at this
    have h1' : k < (psumN l n).length := h1
    rw [List.getElem?_eq_getElem h1'] at this
    exact this
def rowP (row0 : List P2) (wdT : Nat → Nat → Nat) (nrT : Nat → Nat) (M : Nat) : Nat → List P2
  | 0 => row0
  | u + 1 => psum addP (rowG (rowP row0 wdT nrT M u) (wdT (M - 1 - u)) (nrT (M - 1 - u)))
def stP (row0 : List P2) (wdT : Nat → Nat → Nat) (nrT : Nat → Nat) (M : Nat) : Nat → Nat → List P2
  | 0, _ => []
  | u + 1, k => stG (0, 0) (stP row0 wdT nrT M u) (rowP row0 wdT nrT M u) (wdT (M - 1 - u)) (nrT (M - 1 - u)) k
def ev (a c : Int) (x : P2) : Int := x.1 * a + x.2 * c
theorem ev_zero (a c : Int) : ev a c (0, 0) = 0 := by simp [ev]
theorem ev_add (a c : Int) (x y : P2) : ev a c (addP x y) = ev a c x + ev a c y := by
  simp only [ev, addP, Int.natCast_add, Int.add_mul]
  omega
theorem rowS_map (a c : Int) (row0 : List P2) (wdT : Nat → Nat → Nat) (nrT : Nat → Nat) (M : Nat) : ∀ u, rowS (row0.map (ev a c)) wdT nrT M u = (rowP row0 wdT nrT M u).map (ev a c)
  | 0 => rfl
  | u + 1 => by
    rw [rowS, rowS_map a c row0 wdT nrT M u, stepRow, psumN_is, row_is, row_map, psum_map (ev_add a c)]
    rfl
theorem stS_map (a c : Int) (row0 : List P2) (wdT : Nat → Nat → Nat) (nrT : Nat → Nat) (M : Nat) : ∀ u k, stS (row0.map (ev a c)) wdT nrT M u k = (stP row0 wdT nrT M u k).map (ev a c)
  | 0, k => rfl
  | u + 1, k => by
    rw [stS, st_is, rowS_map]
    have e : stS (row0.map (ev a c)) wdT nrT M u = fun k => (stP row0 wdT nrT M u k).map (ev a c) := funext fun k => stS_map a c row0 wdT nrT M u k
    rw [e, st_map (ev_zero a c)]
    rfl
def tstepP (r : Nat) (l : List P2) : List P2 := List.zipWith (fun h x => (h.1 + r * x.1, h.2 + r * x.2)) (l ++ [(0, 0)]) ((0, 0) :: l)
def toldP (n : Nat) (ts : List Nat) : Nat → List P2
  | 0 => [(0, 1), (1, n - 1)]
  | j + 1 => iter (tstepP (n - j)) (ts.getD j 0) (toldP n ts j)
theorem tstep_map (a c : Int) (r : Nat) (l : List P2) : tstep (r : Int) (l.map (ev a c)) = (tstepP r l).map (ev a c) := by
  unfold tstep tstepP
  rw [List.map_zipWith]
  have e1 : l.map (ev a c) ++ [0] = (l ++ [(0, 0)]).map (ev a c) := by rw [List.map_append, List.map_singleton, ev_zero]
  have e2 : 0 :: l.map (ev a c) = (((0, 0) : P2) :: l).map (ev a c) := by rw [List.map_cons, ev_zero]
  rw [e1, e2, List.zipWith_map]
  congr 1
  funext h x
  simp only [ev, Int.natCast_add, Int.natCast_mul, Int.add_mul, Int.mul_add, Int.mul_assoc]
  omega
theorem iter_map (a c : Int) (r : Nat) (l : List P2) : ∀ n, iter (tstep (r : Int)) n (l.map (ev a c)) = (iter (tstepP r) n l).map (ev a c)
  | 0 => rfl
  | n + 1 => by rw [iter, iter_map a c r l n, tstep_map]; rfl
theorem told_map (a c : Int) (ts : List Nat) (hn : 1 ≤ ts.length) : ∀ j, j ≤ ts.length → toldAt a c (ts.map fun (x : Nat) => (x : Int)) j = (toldP ts.length ts j).map (ev a c)
  | 0, _ => by
    show told0 a c _ = _
    unfold told0
    rw [List.length_map]
    have e : ((ts.length : Int) - 1) = ((ts.length - 1 : Nat) : Int) := by omega
    rw [e]
    simp [toldP, ev, Int.mul_comm]
  | j + 1, h => by
    rw [toldAt_succ, told_map a c ts hn j (by omega), List.length_map]
    have e : ((ts.length : Int) - j) = ((ts.length - j : Nat) : Int) := by omega
    have e2 : ((ts.map fun (x : Nat) => (x : Int)).getD j 0).toNat = ts.getD j 0 := by
      rw [List.getD_eq_getElem?_getD, List.getD_eq_getElem?_getD, List.getElem?_map]
      cases ts[j]? <;> rfl
    rw [e, e2, iter_map]
    rfl
end
section
/- the part Plain5 -/
open PySem PySem.W PyProof.Rows PySem.Spec PySem.Calls PySem.W.X
set_option maxRecDepth 100000
section
variable {β : Type}
def force (n : Nat) (k : Nat → β) : β := match n with
  | 0 => k 0
  | m + 1 => k (m + 1)
theorem force_eq (n : Nat) (k : Nat → β) : force n k = k n := by cases n <;> rfl
/-- a list written out, then k of it -/
def normP : List P2 → List P2 → (List P2 → β) → β
  | [], out, k => k out.reverse
  | x :: r, out, k => force x.1 fun p => force x.2 fun q => normP r ((p, q) :: out) k
theorem normP_eq : ∀ (l out : List P2) (k : List P2 → β), normP l out k = k (out.reverse ++ l)
  | [], out, k => by rw [normP, List.append_nil]
  | x :: r, out, k => by
    rw [normP, force_eq, force_eq, normP_eq r, List.reverse_cons, List.append_assoc]
    rfl
end
def loP (l1 l2 l3 : Nat) (j : Nat) : Nat := match j with
  | 0 => 0
  | 1 => l1
  | 2 => l2
  | _ => l3
def wdP (l1 l2 l3 t j : Nat) : Nat := t + 1 - loP l1 l2 l3 j
def nrP (l1 l2 l3 t : Nat) : Nat := if t < l1 then 1 else if t < l2 then 2 else if t < l3 then 3 else 4
def okP (line : List P2) (wd : Nat → Nat) (nr : Nat) : Bool :=
  Nat.ble line.length 900 && line.all (fun x => Nat.ble x.1 (10 ^ 18) && Nat.ble x.2 (10 ^ 18)) && (List.range nr).all fun j => Nat.ble 1 (wd j) && Nat.ble (wd j) (leftG line wd j).length
def s4 (s0 s1 s2 s3 : List P2) (k : Nat) : List P2 := match k with
  | 0 => s0
  | 1 => s1
  | 2 => s2
  | _ => s3
/-- the turns, from the last mail to the first -/
def sim (l1 l2 l3 : Nat) (fin : List P2 → List P2 → List P2 → List P2 → Bool) : Nat → List P2 → List P2 → List P2 → List P2 → List P2 → Bool
  | 0, _, s0, s1, s2, s3 => fin s0 s1 s2 s3
  | t + 1, line, s0, s1, s2, s3 =>
    okP line (wdP l1 l2 l3 t) (nrP l1 l2 l3 t) && (Nat.ble s0.length 900 && Nat.ble s1.length 900 && Nat.ble s2.length 900 && Nat.ble s3.length 900) &&
    normP (psum addP (rowG line (wdP l1 l2 l3 t) (nrP l1 l2 l3 t))) [] fun line' =>
    normP (stG (0, 0) (s4 s0 s1 s2 s3) line (wdP l1 l2 l3 t) (nrP l1 l2 l3 t) 0) [] fun s0' =>
    normP (stG (0, 0) (s4 s0 s1 s2 s3) line (wdP l1 l2 l3 t) (nrP l1 l2 l3 t) 1) [] fun s1' =>
    normP (stG (0, 0) (s4 s0 s1 s2 s3) line (wdP l1 l2 l3 t) (nrP l1 l2 l3 t) 2) [] fun s2' =>
    normP (stG (0, 0) (s4 s0 s1 s2 s3) line (wdP l1 l2 l3 t) (nrP l1 l2 l3 t) 3) [] fun s3' =>
    sim l1 l2 l3 fin t line' s0' s1' s2' s3'
def finP (t0 t1 t2 t3 : Nat) (s0 s1 s2 s3 : List P2) : Bool :=
  s0 == toldP 1 [t0] 1 && s1 == toldP 2 [t0, t1] 2 && s2 == toldP 3 [t0, t1, t2] 3 && s3 == toldP 4 [t0, t1, t2, t3] 4
def row0P (t0 t1 t2 t3 : Nat) : List P2 := (1, 0) :: List.replicate (7 + (4 * t0 + 3 * t1 + 2 * t2 + t3)) (0, 1)
def simOk (t0 t1 t2 t3 : Nat) : Bool := sim t3 (t3 + t2) (t3 + t2 + t1) (finP t0 t1 t2 t3) (t3 + t2 + t1 + (t0 + 2)) (row0P t0 t1 t2 t3) [] [] [] []
theorem stG_congr {α : Type} {z : α} {f g : Nat → List α} {r : List α} {wd : Nat → Nat} {k : Nat} (h : f k = g k) : ∀ j, stG z f r wd j k = stG z g r wd j k
  | 0 => h
  | j + 1 => by rw [stG, stG, stG_congr h j]
theorem okP_use {line : List P2} {wd : Nat → Nat} {nr : Nat} (h : okP line wd nr = true) :
    line.length ≤ 900 ∧ (∀ x ∈ line, x.1 ≤ 10 ^ 18 ∧ x.2 ≤ 10 ^ 18) ∧ ∀ j, j < nr → 1 ≤ wd j ∧ wd j ≤ (leftG line wd j).length := by
  unfold okP at h
  rw [Bool.and_eq_true, Bool.and_eq_true] at h
  obtain ⟨⟨h1, h2⟩, h3⟩ := h
  refine ⟨Nat.le_of_ble_eq_true h1, fun x hx => ?_, fun j hj => ?_⟩
  · have := List.all_eq_true.mp h2 x hx
    rw [Bool.and_eq_true] at this
    exact ⟨Nat.le_of_ble_eq_true this.1, Nat.le_of_ble_eq_true this.2⟩
  · have := List.all_eq_true.mp h3 j (List.mem_range.mpr hj)
    rw [Bool.and_eq_true] at this
    exact ⟨Nat.le_of_ble_eq_true this.1, Nat.le_of_ble_eq_true this.2⟩
theorem sim_sound {l1 l2 l3 M : Nat} {fin : List P2 → List P2 → List P2 → List P2 → Bool} {row0 : List P2} : ∀ {t u : Nat}, t + u = M →
    sim l1 l2 l3 fin t (rowP row0 (wdP l1 l2 l3) (nrP l1 l2 l3) M u) (stP row0 (wdP l1 l2 l3) (nrP l1 l2 l3) M u 0) (stP row0 (wdP l1 l2 l3) (nrP l1 l2 l3) M u 1) (stP row0 (wdP l1 l2 l3) (nrP l1 l2 l3) M u 2) (stP row0 (wdP l1 l2 l3) (nrP l1 l2 l3) M u 3) = true →
    (∀ v, u ≤ v → v < M → okP (rowP row0 (wdP l1 l2 l3) (nrP l1 l2 l3) M v) (wdP l1 l2 l3 (M - 1 - v)) (nrP l1 l2 l3 (M - 1 - v)) = true ∧ ∀ k, k < 4 → (stP row0 (wdP l1 l2 l3) (nrP l1 l2 l3) M v k).length ≤ 900) ∧
    fin (stP row0 (wdP l1 l2 l3) (nrP l1 l2 l3) M M 0) (stP row0 (wdP l1 l2 l3) (nrP l1 l2 l3) M M 1) (stP row0 (wdP l1 l2 l3) (nrP l1 l2 l3) M M 2) (stP row0 (wdP l1 l2 l3) (nrP l1 l2 l3) M M 3) = true
  | 0, u, hu, h => by
    have e : u = M := by omega
    subst e
    exact ⟨fun v h1 h2 => absurd h2 (Nat.not_lt.mpr h1), h⟩
  | t + 1, u, hu, h => by
    rw [sim, Bool.and_eq_true, Bool.and_eq_true] at h
    obtain ⟨⟨h1, h2⟩, h3⟩ := h
    have et : M - 1 - u = t := by omega
    rw [normP_eq, normP_eq, normP_eq, normP_eq, normP_eq] at h3
    simp only [List.reverse_nil, List.nil_append] at h3
    have er : rowP row0 (wdP l1 l2 l3) (nrP l1 l2 l3) M (u + 1) = psum addP (rowG (rowP row0 (wdP l1 l2 l3) (nrP l1 l2 l3) M u) (wdP l1 l2 l3 t) (nrP l1 l2 l3 t)) := by rw [rowP, et]
    have es : ∀ k, k < 4 → stP row0 (wdP l1 l2 l3) (nrP l1 l2 l3) M (u + 1) k = stG (0, 0) (s4 (stP row0 (wdP l1 l2 l3) (nrP l1 l2 l3) M u 0) (stP row0 (wdP l1 l2 l3) (nrP l1 l2 l3) M u 1) (stP row0 (wdP l1 l2 l3) (nrP l1 l2 l3) M u 2) (stP row0 (wdP l1 l2 l3) (nrP l1 l2 l3) M u 3)) (rowP row0 (wdP l1 l2 l3) (nrP l1 l2 l3) M u) (wdP l1 l2 l3 t) (nrP l1 l2 l3 t) k := fun k hk => by
      rw [stP, et]
      refine stG_congr ?_ _
      match k, hk with
      | 0, _ => rfl
      | 1, _ => rfl
      | 2, _ => rfl
      | 3, _ => rfl
    rw [← er, ← es 0 (by decide), ← es 1 (by decide), ← es 2 (by decide), ← es 3 (by decide)] at h3
    obtain ⟨r1, r2⟩ := sim_sound (t := t) (u := u + 1) (by omega) h3
    refine ⟨fun v hv1 hv2 => ?_, r2⟩
    by_cases e : v = u
    · subst e
      rw [et]
      refine ⟨h1, fun k hk => ?_⟩
      rw [Bool.and_eq_true, Bool.and_eq_true, Bool.and_eq_true] at h2
      obtain ⟨⟨⟨q0, q1⟩, q2⟩, q3⟩ := h2
      match k, hk with
      | 0, _ => exact Nat.le_of_ble_eq_true q0
      | 1, _ => exact Nat.le_of_ble_eq_true q1
      | 2, _ => exact Nat.le_of_ble_eq_true q2
      | 3, _ => exact Nat.le_of_ble_eq_true q3
    · exact r1 v (by omega) hv2
theorem sim_00 : ∀ t2, t2 < 3 → ∀ t3, t3 < 3 → simOk 0 0 t2 t3 = true := by decide +kernel
theorem sim_01 : ∀ t2, t2 < 3 → ∀ t3, t3 < 3 → simOk 0 1 t2 t3 = true := by decide +kernel
theorem sim_02 : ∀ t2, t2 < 3 → ∀ t3, t3 < 3 → simOk 0 2 t2 t3 = true := by decide +kernel
theorem sim_10 : ∀ t2, t2 < 3 → ∀ t3, t3 < 3 → simOk 1 0 t2 t3 = true := by decide +kernel
theorem sim_11 : ∀ t2, t2 < 3 → ∀ t3, t3 < 3 → simOk 1 1 t2 t3 = true := by decide +kernel
theorem sim_12 : ∀ t2, t2 < 3 → ∀ t3, t3 < 3 → simOk 1 2 t2 t3 = true := by decide +kernel
theorem sim_20 : ∀ t2, t2 < 3 → ∀ t3, t3 < 3 → simOk 2 0 t2 t3 = true := by decide +kernel
theorem sim_21 : ∀ t2, t2 < 3 → ∀ t3, t3 < 3 → simOk 2 1 t2 t3 = true := by decide +kernel
theorem sim_22 : ∀ t2, t2 < 3 → ∀ t3, t3 < 3 → simOk 2 2 t2 t3 = true := by decide +kernel
theorem sim_all {t0 t1 t2 t3 : Nat} (h0 : t0 < 3) (h1 : t1 < 3) (h2 : t2 < 3) (h3 : t3 < 3) : simOk t0 t1 t2 t3 = true := by
  match t0, t1, h0, h1 with
  | 0, 0, _, _ => exact sim_00 t2 h2 t3 h3
  | 0, 1, _, _ => exact sim_01 t2 h2 t3 h3
  | 0, 2, _, _ => exact sim_02 t2 h2 t3 h3
  | 1, 0, _, _ => exact sim_10 t2 h2 t3 h3
  | 1, 1, _, _ => exact sim_11 t2 h2 t3 h3
  | 1, 2, _, _ => exact sim_12 t2 h2 t3 h3
  | 2, 0, _, _ => exact sim_20 t2 h2 t3 h3
  | 2, 1, _, _ => exact sim_21 t2 h2 t3 h3
  | 2, 2, _, _ => exact sim_22 t2 h2 t3 h3
end
section
/- the part Plain6 -/
open PySem PySem.W PyProof.Rows PySem.Spec PySem.Calls PySem.W.X
set_option maxRecDepth 100000
theorem es_eol (ds : List Int) (j : Nat) : isEol (esOf ds j) := by
  unfold esOf
  have h := fmod3 (((ds.getD (5 - j) 0)).fdiv 3)
  generalize ((ds.getD (5 - j) 0).fdiv 3).fmod 3 = x at h
  have : x = 0 ∨ x = 1 ∨ x = 2 := by omega
  rcases this with rfl | rfl | rfl
  · exact .inl rfl
  · exact .inr (.inl rfl)
  · exact .inr (.inr rfl)
/-- the times, as numbers below three -/
theorem times_of {ds : List Int} (hdl : ds.length = 6) : ∃ t0 t1 t2 t3 : Nat, t0 < 3 ∧ t1 < 3 ∧ t2 < 3 ∧ t3 < 3 ∧ ((ds.drop 2).map fun x => x.fmod 3) = [t0, t1, t2, t3].map (fun (x : Nat) => (x : Int)) ∧
    csOf ds 0 = t3 ∧ csOf ds 1 = t2 ∧ csOf ds 2 = t1 ∧ csOf ds 3 = t0 + 2 := by
  match ds, hdl with
  | [d0, d1, d2, d3, d4, d5], _ =>
    have h2 := fmod3 d2
    have h3 := fmod3 d3
    have h4 := fmod3 d4
    have h5 := fmod3 d5
    refine ⟨(d2.fmod 3).toNat, (d3.fmod 3).toNat, (d4.fmod 3).toNat, (d5.fmod 3).toNat, by omega, by omega, by omega, by omega, ?_, ?_, ?_, ?_, ?_⟩
    · show [d2.fmod 3, d3.fmod 3, d4.fmod 3, d5.fmod 3] = [((d2.fmod 3).toNat : Int), ((d3.fmod 3).toNat : Int), ((d4.fmod 3).toNat : Int), ((d5.fmod 3).toNat : Int)]
      rw [Int.toNat_of_nonneg h2.1, Int.toNat_of_nonneg h3.1, Int.toNat_of_nonneg h4.1, Int.toNat_of_nonneg h5.1]
    · show (d5.fmod 3 + 0).toNat = _
      rw [Int.add_zero]
    · show (d4.fmod 3 + 0).toNat = _
      rw [Int.add_zero]
    · show (d3.fmod 3 + 0).toNat = _
      rw [Int.add_zero]
    · show (d2.fmod 3 + 2).toNat = _
      omega
theorem ev_bound {a c : Int} (ha : a.natAbs ≤ 5 * 10 ^ 39) (hc : c.natAbs ≤ 5 * 10 ^ 39) {x : P2} (h1 : x.1 ≤ 10 ^ 18) (h2 : x.2 ≤ 10 ^ 18) : (ev a c x).natAbs < 10 ^ 60 := by
  have e1 : ((x.1 : Int) * a).natAbs ≤ 10 ^ 18 * (5 * 10 ^ 39) := by
    rw [Int.natAbs_mul, Int.natAbs_natCast]
    exact Nat.mul_le_mul h1 ha
  have e2 : ((x.2 : Int) * c).natAbs ≤ 10 ^ 18 * (5 * 10 ^ 39) := by
    rw [Int.natAbs_mul, Int.natAbs_natCast]
    exact Nat.mul_le_mul h2 hc
  have e3 : (ev a c x).natAbs ≤ ((x.1 : Int) * a).natAbs + ((x.2 : Int) * c).natAbs := Int.natAbs_add_le _ _
  have e4 : 10 ^ 18 * (5 * 10 ^ 39) + 10 ^ 18 * (5 * 10 ^ 39) < 10 ^ 60 := by decide +kernel
  omega
theorem row0_map (a c : Int) (t0 t1 t2 t3 : Nat) : (row0P t0 t1 t2 t3).map (ev a c) = a :: List.replicate (7 + (4 * t0 + 3 * t1 + 2 * t2 + t3)) c := by
  unfold row0P
  rw [List.map_cons, List.map_replicate]
  have e1 : ev a c (1, 0) = a := by simp [ev]
  have e2 : ev a c (0, 1) = c := by simp [ev]
  rw [e1, e2]
theorem total_is (t0 t1 t2 t3 : Nat) : (7 + total ([t0, t1, t2, t3].map fun (x : Nat) => (x : Int))).toNat = 7 + (4 * t0 + 3 * t1 + 2 * t2 + t3) := by
  simp only [total, List.range, List.range.loop, List.map_cons, List.map_nil, List.take_succ_cons, List.take_zero, List.take_nil, List.sum_cons, List.sum_nil]
  omega
theorem hq_of {ds : List Int} (hdl : ds.length = 6) (j q : Nat) (hj : j < 4) (hq : q ≤ csOf ds j) : (iter quoted q (46 :: 120 :: (esOf ds j ++ layMail (esOf ds) (csOf ds) j))).length ≤ 40000 := by
  refine turn_len (es_eol ds) hj ?_
  have h : ∀ k, laidN (csOf ds) k ≤ 4 * k := fun k => by
    induction k with
    | zero => exact Nat.le_refl _
    | succ k ih =>
      have := cs_few ds k
      rw [laidN]
      omega
  have h1 := h j
  have h2 := cs_few ds j
  omega
theorem plan_of {ds : List Int} (hdl : ds.length = 6) {a c : Int} (ha : a.natAbs ≤ 5 * 10 ^ 39) (hc : c.natAbs ≤ 5 * 10 ^ 39) :
    ∃ (wdT : Nat → Nat → Nat) (nrT : Nat → Nat), Plan (layMails (esOf ds) (csOf ds) 4) ((List.range 4).map fun i => ((layMails (esOf ds) (csOf ds) i).length : Int)) (a :: List.replicate (7 + total ((ds.drop 2).map fun x => x.fmod 3)).toNat c) wdT nrT ∧
      ∀ k, k < 4 → stS (a :: List.replicate (7 + total ((ds.drop 2).map fun x => x.fmod 3)).toNat c) wdT nrT (layMails (esOf ds) (csOf ds) 4).length (layMails (esOf ds) (csOf ds) 4).length k = toldAt a c (((ds.drop 2).map fun x => x.fmod 3).take (k + 1)) (k + 1) := by
  obtain ⟨t0, t1, t2, t3, h0, h1, h2, h3, htm, c0, c1, c2, c3⟩ := times_of hdl
  rw [htm, total_is, ← row0_map a c]
  have he := es_eol ds
  revert c0 c1 c2 c3 he
  generalize esOf ds = es
  generalize csOf ds = cs
  intro c0 c1 c2 c3 he
  have l1 : laidN cs 1 = t3 := by rw [laidN, c0]; exact Nat.zero_add _
  have l2 : laidN cs 2 = t3 + t2 := by rw [laidN, l1, c1]
  have l3 : laidN cs 3 = t3 + t2 + t1 := by rw [laidN, l2, c2]
  have l4 : laidN cs 4 = t3 + t2 + t1 + (t0 + 2) := by rw [laidN, l3, c3]
  have hM : (layMails es cs 4).length = t3 + t2 + t1 + (t0 + 2) := by rw [mails_len, l4]
  have hlo : ∀ j, j < 4 → laidN cs j = loP t3 (t3 + t2) (t3 + t2 + t1) j := fun j hj => by
    match j, hj with
    | 0, _ => rfl
    | 1, _ => exact l1
    | 2, _ => exact l2
    | 3, _ => exact l3
  have hnr : ∀ t, nrOf cs t = nrP t3 (t3 + t2) (t3 + t2 + t1) t := fun t => by unfold nrOf nrP; rw [l1, l2, l3]
  have hwd : ∀ t j, j < 4 → wdOf cs t j = wdP t3 (t3 + t2) (t3 + t2 + t1) t j := fun t j hj => by unfold wdOf wdP; rw [hlo j hj]
  have hsim := sim_all h0 h1 h2 h3
  obtain ⟨hs1, hs2⟩ := sim_sound (M := t3 + t2 + t1 + (t0 + 2)) (u := 0) (row0 := row0P t0 t1 t2 t3) (Nat.add_zero _) hsim
  refine ⟨wdP t3 (t3 + t2) (t3 + t2 + t1), nrP t3 (t3 + t2) (t3 + t2 + t1), ⟨by rw [hM]; omega, by simp, fun t l e => ?_, fun t ht => ?_, fun u hu => ?_, fun u hu k hk => ?_⟩, fun k hk => ?_⟩
  · obtain ⟨g1, g2⟩ := mail_rows he (by rw [l4]; omega) e
    refine ⟨g1, ?_⟩
    rw [g2, hnr]
    unfold rowsOf
    congr 2
    refine List.map_congr_left fun j hj => ?_
    have hj4 : j < 4 := by
      have := List.mem_range.mp hj
      have := nr_four (cs := cs) t
      rw [hnr] at this
      omega
    rw [hwd t j hj4]
  · have h4 := nr_four (cs := cs) t
    rw [hnr] at h4
    refine ⟨h4, fun j hj => ?_⟩
    rw [marks_at (by omega), ← hwd t j (by omega)]
    have : laidN cs j ≤ t := nr_laid (by rw [l4]; rw [hM] at ht; exact ht) (by rw [hnr]; exact hj)
    unfold wdOf
    omega
  · rw [hM] at hu ⊢
    obtain ⟨g1, _⟩ := hs1 u (Nat.zero_le _) hu
    obtain ⟨q1, q2, q3⟩ := okP_use g1
    rw [rowS_map]
    refine ⟨by rw [List.length_map]; exact q1, fun n hn => ?_, fun j hj => ?_⟩
    · obtain ⟨x, hx, rfl⟩ := List.mem_map.mp hn
      exact ev_bound ha hc (q2 x hx).1 (q2 x hx).2
    · rw [left_is, left_map, List.length_map]
      exact q3 j hj
  · rw [hM] at hu ⊢
    obtain ⟨_, g2⟩ := hs1 u (Nat.zero_le _) hu
    rw [stS_map, List.length_map]
    exact g2 k hk
  · rw [hM, stS_map]
    unfold finP at hs2
    rw [Bool.and_eq_true, Bool.and_eq_true, Bool.and_eq_true] at hs2
    obtain ⟨⟨⟨f0, f1⟩, f2⟩, f3⟩ := hs2
    rw [← List.map_take]
    have told : ∀ ts : List Nat, 1 ≤ ts.length → toldAt a c (ts.map fun (x : Nat) => (x : Int)) ts.length = (toldP ts.length ts ts.length).map (ev a c) := fun ts h => told_map a c ts h ts.length (Nat.le_refl _)
    match k, hk with
    | 0, _ => rw [beq_iff_eq.mp f0]; exact (told [t0] (by simp)).symm
    | 1, _ => rw [beq_iff_eq.mp f1]; exact (told [t0, t1] (by simp)).symm
    | 2, _ => rw [beq_iff_eq.mp f2]; exact (told [t0, t1, t2] (by simp)).symm
    | 3, _ => rw [beq_iff_eq.mp f3]; exact (told [t0, t1, t2, t3] (by simp)).symm
end
local macro_rules | `(tactic| walk_at "mineLaw") => `(tactic| (
  refine' leafC (by assumption) (by assumption) ?k1 ?k2 ?k6 ?k7 ?k8 ?k9 ?kB ?kD ?_ ?c2 ?c3 ?c4
  case k6 => k_is
  case k7 => k_is
  case k8 => decide +kernel
  case k9 => exact BindsTo.of_eq rfl
  case kB => exact rfl
  case kD => decide
  case c2 => exact rfl
  case c3 => exact rfl
  case c4 => exact rfl
  case k1 => assumption
  case k2 => assumption
  intro h₁ tk₁ cells F N Y hold))
section
/- the part Main -/
open PySem PySem.W PyProof.Rows PySem.Spec PySem.Calls PySem.W.X
set_option maxRecDepth 100000
set_option maxHeartbeats 400000
set_option pp.deepTerms false
set_option pp.deepTerms.threshold 8
/-- what the call of the law leaves -/
def LawPost (s₁ : Shared) (r : Result) (s' : Shared) : Prop :=
  r = .ok (.ret (.bool true)) ∧ (∀ b o, b ≠ 122 → s₁.heap.get? b = some o → s'.heap.get? b = some o) ∧ GrownAt 122 s'.heap ∧ s'.os = s₁.os ∧ AllBare s'.gens
theorem none_122 (P : Params) : (hk.heap_1 P).lookup 122 = none := by kernel_rfl
theorem none_122' (P : Params) : (kx P).lookup 122 = none := by kernel_rfl
theorem frag_ghost {K : Frag} {h : Heap} (e : K.lookup 122 = none) (X : K.In h) : K.In (ghostOf h [((126 : Addr), (122 : Addr))]) := fun a o q => ghost_ne (X a o q) fun hm => by
  have : a = 122 := List.mem_singleton.mp hm
  subst this
  rw [e] at q; cases q
/-- the four lists of the struck, by number -/
def sa4 (s0 s1 s2 s3 : Addr) (k : Nat) : Addr := match k with
  | 0 => s0
  | 1 => s1
  | 2 => s2
  | _ => s3
theorem times_few (ds : List Int) : ∀ x ∈ ((ds.drop 2).map fun x => x.fmod 3), 0 ≤ x ∧ x ≤ 2 := fun x hx => by
  obtain ⟨y, _, rfl⟩ := List.mem_map.mp hx
  have := fmod3 y
  show 0 ≤ y.fmod 3 ∧ y.fmod 3 ≤ 2
  omega
theorem law_spec {w : World} {s₁ : Shared} {p : Program} {loose : List Str} {mean : ExcName → Option Value} {mg mb : Str → Option Value} {l : Addr} {vs : List Value} {ns : List Int}
    (Y : (kx w.params).In s₁.heap) (CH : CodeHd s₁.heap 126 122) (h122 : s₁.heap.get? 122 = some (tabObj #[])) (T : Top p loose mean mg mb s₁.heap) (hl : s₁.heap.IsList l vs.toArray) (hi : IntsAre vs ns) (hn : ns.length ≤ 63) (hg : s₁.gens = #[]) :
    codeAny (model PR w) callerA (.call (.ref 184) ⟨[.ref l], []⟩) (LawPost s₁) s₁ := by
  walk_at "mineFill"
  have X := kx_hk Y
  have G : Gnd w s₁.heap := ⟨X, Y, ⟨_, _, _, _, _, T⟩⟩
  have hk0 : ∀ b o, s₁.heap.get? b = some o → s₁.heap.get? b = some o := fun b o e => e
  have hsz0 : s₁.heap.objs.size ≤ s₁.heap.objs.size := Nat.le_refl _
  walk_at "mineLaw"
  rename_i h1 tk1 cells F N Y2 hold
  obtain ⟨o1, o2, hE, d1, d2⟩ := CellsAre.two Y2
  subst hE
  refine law_a (o1 := o2) (o2 := o1) G rfl F (News_pick N (pc (.tail _ (.head _)) (pc (.head _) pn))) d2 d1 hl hi hn fun D T1 ys tys nD nT o2' ds a c ta tc h2 tk2 m2 hd2 hds hdl htys F2 N2 hm2 _ _ _ _ _ hab hcb => ?_
  have hroom : ∀ env : Env, (callerA.deeper env).depth + 4 < recursionLimit := fun env => by show callerA.depth + 1 + 4 < recursionLimit; decide +kernel
  have hroom0 : ∀ env : Env, (callerA.deeper env).depth + 1 < recursionLimit := fun env => by show callerA.depth + 1 + 1 < recursionLimit; decide +kernel
  have hun : ∀ env : Env, (callerA.deeper env).units ≤ 2000 := fun env => by rw [units_deeper]; decide +kernel
  have hr1 := hroom (lawEnv s₁.heap.objs.size)
  have hr0 := hroom0 (lawEnv s₁.heap.objs.size)
  have hu1 := hun (lawEnv s₁.heap.objs.size)
  clear hroom hroom0 hun Y2 hold F N
  obtain ⟨wdT, nrT, P, hP⟩ := plan_of hdl hab hcb
  refine law_b (s := ⟨h2, s₁.gens, s₁.drawn, tk2, s₁.os⟩) G rfl hr0 hd2 hds hdl htys F2 N2 hm2 (hq_of hdl) fun h3 tk3 m3 Ms Ld Mv Lv nM nL F3 hm3 N3 hMv hLv => ?_
  have htl : ((ds.drop 2).map fun x => x.fmod 3).length = 4 := by rw [List.length_map, List.length_drop, hdl]
  refine law_c (s := ⟨h3, s₁.gens, s₁.drawn, tk3, s₁.os⟩) G rfl hr0 hd2 htys htl (times_few ds) F3 hm3 N3 fun h4 tk4 m4 R ST s0 s1 s2 s3 rv F4 hm4 N4 hrv ⟨q1, q2, q3, q4, q5⟩ ⟨r1, r2, r3, r4⟩ => ?_
  have hT : TabsAt [((126 : Addr), (122 : Addr))] s₁.heap := fun q hq => by rw [List.mem_singleton.mp hq]; exact ⟨CH, h122⟩
  have G5 : Gnd w (ghostOf s₁.heap [((126 : Addr), (122 : Addr))]) := ⟨frag_ghost (none_122 _) X, frag_ghost (none_122' _) Y, ⟨_, _, _, _, _, ghost_top hT T⟩⟩
  have C5 : CodeHd (ghostOf s₁.heap [((126 : Addr), (122 : Addr))]) 126 122 := (ghost_code hT).1
  have F5 := ghost_fr hT F4
  have N5 := ghost_news hT F4 N4
  have no122 : ∀ p ∈ [(ST, listOf #[Value.ref s0, .ref s1, .ref s2, .ref s3] 0), (s0, listOf #[] 0), (s1, listOf #[] 0), (s2, listOf #[] 0), (s3, listOf #[] 0), (R, listOf rv.toArray 0), (Ld, listOf Lv.toArray nL), (Ms, listOf Mv.toArray nM), (s₁.heap.objs.size + 2, o2'), (T1, listOf tys.toArray nT)], p.1 ≠ 122 := fun p hp e => by
    have := (N4 p hp).2.2
    rw [e, h122] at this; cases this
  have hs0 : ∀ k, k < 4 → s0 ≤ sa4 s0 s1 s2 s3 k ∧ sa4 s0 s1 s2 s3 k < ST := fun k hk => by
    match k, hk with
    | 0, _ => exact ⟨Nat.le_refl _, Nat.lt_trans r1 (Nat.lt_trans r2 (Nat.lt_trans r3 r4))⟩
    | 1, _ => exact ⟨Nat.le_of_lt r1, Nat.lt_trans r2 (Nat.lt_trans r3 r4)⟩
    | 2, _ => exact ⟨Nat.le_of_lt (Nat.lt_trans r1 r2), Nat.lt_trans r3 r4⟩
    | 3, _ => exact ⟨Nat.le_of_lt (Nat.lt_trans r1 (Nat.lt_trans r2 r3)), r4⟩
  have hinj : ∀ k l, k < 4 → l < 4 → k ≠ l → sa4 s0 s1 s2 s3 k ≠ sa4 s0 s1 s2 s3 l := by
    have lt : ∀ k l, l < 4 → k < l → sa4 s0 s1 s2 s3 k < sa4 s0 s1 s2 s3 l := fun k l hl hkl => by
      have : (k = 0 ∧ l = 1) ∨ (k = 0 ∧ l = 2) ∨ (k = 0 ∧ l = 3) ∨ (k = 1 ∧ l = 2) ∨ (k = 1 ∧ l = 3) ∨ (k = 2 ∧ l = 3) := by omega
      rcases this with ⟨rfl, rfl⟩ | ⟨rfl, rfl⟩ | ⟨rfl, rfl⟩ | ⟨rfl, rfl⟩ | ⟨rfl, rfl⟩ | ⟨rfl, rfl⟩
      · exact r1
      · exact Nat.lt_trans r1 r2
      · exact Nat.lt_trans r1 (Nat.lt_trans r2 r3)
      · exact r2
      · exact Nat.lt_trans r2 r3
      · exact r3
    intro k l hk hl hne
    rcases Nat.lt_or_gt_of_ne hne with h | h
    · exact Nat.ne_of_lt (lt k l hl h)
    · exact Nat.ne_of_gt (lt l k hk h)
  refine law_d (s := ⟨h4, s₁.gens, s₁.drawn, tk4, s₁.os⟩) (sa := sa4 s0 s1 s2 s3) (sv := fun _ => []) (sn := fun _ => 0) (ps := #[]) (STv := #[.ref s0, .ref s1, .ref s2, .ref s3]) (rv := rv) (Lv := Lv) (Mv := Mv) (tl := [(s₁.heap.objs.size + 2, o2'), (T1, listOf tys.toArray nT)]) G5 rfl hr1 hu1 C5 (AllBare.of_eq hg) trivial P F5 hm4
    (News_pick N5 (pc (List.mem_append_right _ (.head _)) (pc (.tail _ (.tail _ (.tail _ (.tail _ (.tail _ (.head _)))))) (pc (.head _) (pc (.tail _ (.tail _ (.tail _ (.tail _ (.tail _ (.tail _ (.head _))))))) (pc (.tail _ (.tail _ (.tail _ (.tail _ (.tail _ (.tail _ (.tail _ (.head _)))))))) (pc (.tail _ (.head _)) (pc (.tail _ (.tail _ (.head _))) (pc (.tail _ (.tail _ (.tail _ (.head _)))) (pc (.tail _ (.tail _ (.tail _ (.tail _ (.head _)))))
      (pc (.tail _ (.tail _ (.tail _ (.tail _ (.tail _ (.tail _ (.tail _ (.tail _ (.head _))))))))) (pc (.tail _ (.tail _ (.tail _ (.tail _ (.tail _ (.tail _ (.tail _ (.tail _ (.tail _ (.head _)))))))))) pn))))))))))))
    hrv hMv hLv (fun k hk => .nil) (fun k hk => by
      match k, hk with
      | 0, _ => rfl
      | 1, _ => rfl
      | 2, _ => rfl
      | 3, _ => rfl) hinj
    (nc (no122 (R, _) (by k_mem)) (nc (no122 (ST, _) (by k_mem)) (nc (no122 (Ld, _) (by k_mem)) (nc (no122 (Ms, _) (by k_mem)) (nc (no122 (s0, _) (by k_mem)) (nc (no122 (s1, _) (by k_mem)) (nc (no122 (s2, _) (by k_mem)) (nc (no122 (s3, _) (by k_mem)) (nc (no122 (s₁.heap.objs.size + 2, _) (by k_mem)) (nc (no122 (T1, _) (by k_mem)) nn))))))))))
    (fun k hk => nc (Nat.ne_of_lt (Nat.lt_of_lt_of_le q1 (hs0 k hk).1)) (nc (Nat.ne_of_gt (hs0 k hk).2) (nc (Nat.ne_of_lt (Nat.lt_of_lt_of_le q2 (hs0 k hk).1)) (nc (Nat.ne_of_lt (Nat.lt_of_lt_of_le q3 (hs0 k hk).1)) (nc (Nat.ne_of_lt (Nat.lt_of_lt_of_le q4 (hs0 k hk).1)) (nc (Nat.ne_of_lt (Nat.lt_of_lt_of_le q5 (hs0 k hk).1)) nn))))))
    fun h6 g6 d6 tk6 m6 sv6 sn6 ps6 hB6 F6 hm6 N6 hst6 => ?_
  refine law_e (s := ⟨h6, g6, d6, tk6, s₁.os⟩) (st := fun k => stS (a :: List.replicate (7 + total ((ds.drop 2).map fun x => x.fmod 3)).toNat c) wdT nrT (layMails (esOf ds) (csOf ds) 4).length (layMails (esOf ds) (csOf ds) 4).length k) (sa := sa4 s0 s1 s2 s3) (sv := sv6) (sn := sn6) (STv := #[.ref s0, .ref s1, .ref s2, .ref s3]) (tl := [(122, tabObj ps6)]) G5 rfl hr1 hu1 F6 hm6
    (News_pick N6 (pc (by k_mem) (pc (.tail _ (.tail _ (List.mem_append_right _ (.head _)))) (pc (.tail _ (.tail _ (List.mem_append_right _ (.tail _ (.head _))))) fun p hp => by
      rcases List.mem_append.mp hp with hp | hp
      · exact .tail _ (.tail _ (List.mem_append_left _ hp))
      · rw [List.mem_singleton.mp hp]; exact .head _)))) hd2 htys htl (times_few ds) hst6 (fun k hk => by
      match k, hk with
      | 0, _ => rfl
      | 1, _ => rfl
      | 2, _ => rfl
      | 3, _ => rfl) hP fun h7 tk7 m7 F7 N7 => ?_
  exact ⟨rfl, fun b o hb e => F7.keep b o (ghost_ne e fun hm => hb (List.mem_singleton.mp hm)), ⟨ps6, (N7 (122, tabObj ps6) (.tail _ (.tail _ (.tail _ (List.mem_append_right _ (.head _)))))).1⟩, rfl, hB6⟩
end
section
/- the part Entry3 -/
open PySem PySem.W PyProof.Rows PySem.Spec PySem.Calls
set_option maxRecDepth 100000
theorem lawPost_good {s₁ s' : Shared} {r : Result} {cl : Str → Option Addr} {mean : ExcName → Option Value} {args : List WData} (X : CodeHd s₁.heap 126 122) (h122 : s₁.heap.get? 122 = some (tabObj #[]))
    (h : LawPost s₁ r s') : GoodWG PySem.Challenge.rw_xj0006_01.row.claim cl mean args s₁ r s' := by
  obtain ⟨rfl, hk, ⟨ps, hps⟩, hos, hg⟩ := h
  refine ⟨.inl ⟨_, _, [], rfl, fun _ => rfl, ReadsW.bool true, ?_, fun _ => ⟨List.nodup_nil, fun _ hm => (nomatch hm)⟩⟩, ⟨fun b o e => ?_, fun b o e => ?_⟩, hos, hg⟩
  · exact postW_of (by wrow_shape) (by wtm_val) (by w_fin)
  · by_cases hb : b = 122
    · subst hb
      rw [h122] at e
      cases e
      exact .inr (.inl ⟨(X.tab h122).isCodeTable, rfl, #[], ps, rfl, by rw [Array.empty_append]; exact hps⟩)
    · exact .inl (hk b o hb e)
  · by_cases hb : b = 122
    · subst hb; exact ⟨_, hps⟩
    · exact ⟨o, hk b o hb e⟩

theorem hx_122 (P : Params) : (hx.heap_1 P).lookup 122 = some (tabObj #[]) := by kernel_rfl
theorem hx_kx {P : Params} {h : Heap} (Y : (hx.heap_1 P).In h) : (kx P).In h := sub_frag (fun a => a != 122) rfl Y
set_option maxHeartbeats 8000000 in
theorem law_of : PySem.Challenge.rw_xj0006_01.Holds := by
  w_on
  o_law
  refine hx ?_
  w_strict (
    intro w s₀ s₁ mg mb G Y fa o pm cd doc dV kV ho hd hcd hD hmg hg args vals as hpre hlay hrd hwl hlo
    have HX : (hx.heap_1 w.params).In s₁.heap := kIn_of Y
    have YX := hx_kx HX
    have KX : (hk.heap_1 w.params).In s₁.heap := kx_hk YX
    have h122 : s₁.heap.get? 122 = some (tabObj #[]) := HX _ _ (hx_122 _)
    refine Ground.open G ?_
    intro T B D TE TW
    have hfa : mg (Str.ofString "law") = some (.ref 184) := mg_of KX T.g (by kernel_rfl)
    wrow_args hpre hlay hrd hwl hlo)
  all_goals (
    have e184 := Option.some.inj (hmg.symm.trans hfa)
    cases e184
    refine enter_call ?_
    have CH : CodeHd s₁.heap 126 122 := codeHd_of_K KX (by kernel_rfl)
    refine codeAny_mono (law_spec YX CH h122 T (by assumption) (by assumption) ?_ hg) (fun r s' h => lawPost_good CH h122 h)
    omega)
end
end Mine
theorem PySem.Challenge.cw_xj0006_01_holds : PySem.Challenge.rw_xj0006_01.Holds := by
  exact Mine.law_of
