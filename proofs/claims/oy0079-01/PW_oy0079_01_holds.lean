import PyProof.Rows.All
import Wide.All
import OpenK.AllK
import Wide.FinOn
import PySem.Challenge.RW_oy0079_01
open PySem PySem.W PyProof.Rows PySem.Calls PySem.Spec
set_option Elab.async false
set_option maxRecDepth 100000
set_option maxHeartbeats 16000000
namespace Mine
noncomputable def hd.view_39 : Program := view (PySem.Challenge.rw_oy0079_01.row.toRowW.prog) [0, 3, 4, 6, 7, 9, 10, 11, 12, 13, 14, 21, 22, 23, 24, 26, 27, 28, 29, 30, 31, 32, 33]
local macro_rules | `(tactic| o_head $H) => `(tactic| (
  refine holds_open (q := hd.view_39) (loose := [Str.ofString "_deduplicate", Str.ofString "bytes_types", Str.ofString "a2b_base64", Str.ofString "b2a_base64", Str.ofString "b64encode", Str.ofString "b64decode"])
    (Xt := fun s => xlAt hd.view_39 [] s && recOk (RowW.records PySem.Challenge.rw_oy0079_01.row.toRowW) s) (XP := XL hd.view_39 []) (Yf := Hook.obs $H) (Ya := Hook.val $H) (YP := Hook.says $H) (N := 2206)
    ?hl (Hook.of $H) (Hook.keeps $H) (fun s e => xl_of s (Bool.and_eq_true_iff.mp e).1) XL.keeps (by rfl) (by rfl) (by rfl) (fun s e => recFacts_of (Bool.and_eq_true_iff.mp e).2) (by rfl) (by first | assumption | decide +kernel) (by decide +kernel) ⟨rfl, rfl, rfl, rfl, rfl, by decide +kernel⟩ ?hw ?hc
  case hl =>
    intro w
    first
    | (delta openEnds fencedOpening topFrom
       rewrite [PySem.W.Fast.te4187177175401517315, PySem.W.Fast.te5923862056798008813, PySem.W.Fast.te2368527892694137696, PySem.W.Fast.te10274390034422433532, PySem.W.Fast.te14364793385576792824, PySem.W.Fast.te1435165496053646825, PySem.W.Fast.te14289696077712309145, PySem.W.Fast.te14082659384304107361, PySem.W.Fast.te8920871248978507458]
       kernel_rfl)
    | kernel_rfl))
open_top hd for PySem.Challenge.rw_oy0079_01

/-- the levels at which the functions are walked: the frames are not told -/
abbrev lv (d u : Nat) : Around := { handled := none, depth := d, frames := none, guards := none, units := u }

theorem lower {α : Type} {M : Model} {A : Around} {t : Sem α} {Q : α → Shared → Prop} {E : Value → Shared → Prop} {s : Shared} {d u : Nat}
    (h : wpAny M (lv d u) t Q E s) (hh : A.handled = none) (hd : A.depth ≤ d) (hu : A.units ≤ u) : wpAny M A t Q E s :=
  fun Γ p hΓ => h Γ p ⟨hΓ.1.trans hh, Nat.le_trans hΓ.2.1 hd, (fun _ e => by cases e), (fun _ e => by cases e), Nat.le_trans hΓ.2.2.2.2 hu⟩

theorem lowerC {M : Model} {A : Around} {c : Code} {R : Result → Shared → Prop} {s : Shared} {d u : Nat}
    (h : codeAny M (lv d u) c R s) (hh : A.handled = none) (hd : A.depth ≤ d) (hu : A.units ≤ u) : codeAny M A c R s :=
  fun Γ p hc hΓ => h Γ p hc ⟨hΓ.1.trans hh, Nat.le_trans hΓ.2.1 hd, (fun _ e => by cases e), (fun _ e => by cases e), Nat.le_trans hΓ.2.2.2.2 hu⟩

abbrev loose0 : List Str := [Str.ofString "_deduplicate", Str.ofString "bytes_types", Str.ofString "a2b_base64", Str.ofString "b2a_base64", Str.ofString "b64encode", Str.ofString "b64decode"]

abbrev Tp (mean : ExcName → Option Value) (mg mb : Str → Option Value) (h : Heap) : Prop := Top hd.view_39 (looseW hd.view_39 loose0) mean mg mb h

abbrev Md (w : World) : Model := model PySem.Challenge.rw_oy0079_01.row.prog w

def Kp (h h' : Heap) : Prop := ∀ b o, h.get? b = some o → h'.get? b = some o
theorem Kp.refl (h : Heap) : Kp h h := fun _ _ e => e
theorem Kp.trans {a b c : Heap} (x : Kp a b) (y : Kp b c) : Kp a c := fun q o e => y q o (x q o e)

theorem enterP {prog : Program} {w : World} {A : Around} {s : Shared} {K : Frag} {p : Program} {loose : List Str} {mean : ExcName → Option Value} {mg mb : Str → Option Value}
    {Q E : Value → Shared → Prop} {name qual : Str} {params : Arguments} {body : List Stmt} {scope : Scope} {dV kV doc pm cdv ct oc : Value} {an od : Option Addr} {osl : Array (Option Value)} {f : Addr} {pos : List Value} {kw : List (Str × Value)} {binds : List (Str × Value)}
    (X : K.In s.heap) (T : Top p loose mean mg mb s.heap)
    (ho : K.lookup f = some ⟨oc, od, .func (fnOf name qual params body scope dV kV doc pm an cdv ct), osl⟩) (hcd : codeIn K cdv qual = true) (hroom : A.depth < recursionLimit)
    (hbind : BindsTo s (fnOf name qual params body scope dV kV doc pm an cdv ct) ⟨pos, kw⟩ binds) (hloc : ∀ y ∈ binds, scope.names.lookup y.1 = some .local)
    (hco : scope.isCoroutine = false) (hgen : scope.isGenerator = false) (hk : scope.kind = .function)
    (hcell : ∀ x ∈ scope.names, x.2 ≠ .cell)
    (h : ∀ L h₁, Fr s.heap L h₁ (fun y => binds.reverse.lookup y) → News s.heap L h₁ [] →
      wpAny (model prog w) (A.deeper (envOf qual scope L f cdv)) (execs body (envOf qual scope L f cdv))
        (fun fl s' => Q (match fl with | .ret v => v | _ => .none) s') (fun _ _ => False)
        { s with heap := h₁, toks := s.toks + binds.length }) :
    wpAny (model prog w) A (call (.ref f) pos kw) Q E s := by
  refine wpAny_call (codeAny_call_def (fd := fnOf name qual params body scope dV kV doc pm an cdv ct) (body := body) (binds := binds) hroom (X _ _ ho) rfl T.nolimit (codeRec_of X hcd) rfl hbind hcell hloc (fun h₁ hns hk₁ => ?_) hco hgen hk)
  refine wpAny_mono (h s.heap.objs.size h₁ ⟨hns, hk₁, Nat.le_refl _⟩ News.nil) (fun fl s' x => x) (fun e s' x => x.elim)

/-- a mark at which the walk stands still -/
def Halt (P : Prop) : Prop := P
theorem Halt.on {P : Prop} (h : P) : Halt P := h
theorem For_halt {prog : Program} {w : World} {A : Around} {E : Value → Shared → Prop} {s : Shared} {env : Env} {x : Str} {body : List Stmt} {Q : Flow → Shared → Prop} {px pos : Pos} {iter : Expr} {h₀ : Heap} {m : Str → Option Value} (_F : Fr h₀ env.locals s.heap m) (hx : env.kindOf x = some .local)
    (hp : (env.scope.kind == .class || (env.scope.kind == .module && env.locals != env.globals)) = false)
    (hE : PassesOwn (model prog w) A env E)
    (h : wpAny (model prog w) A (eval iter env) (fun xv s₁ => Halt (wpAny (model prog w) A (pyIter xv) (fun it s₂ => LoopAtV prog w A h₀ env x body Q E it s₂) E s₁)) E s)
    (hs : ∀ x, foldedSetIterable iter env x = pure x) :
    wpAny (model prog w) A (exec (.For (.Name x px) iter body [] pos) env) Q E s := For_invV h₀ hx hp h hs hE
theorem frKnow {h₀ h : Heap} {L : Addr} {m : Str → Option Value} (k : Str) {v : Value} (F : Fr h₀ L h m) (e : m k = some v) : Fr h₀ L h (fun y => if y = k then some v else m y) := by
  have q : (fun y => if y = k then some v else m y) = m := by
    funext y
    by_cases hy : y = k
    · rw [if_pos hy, hy, e]
    · rw [if_neg hy]
  rw [q]; exact F
theorem newsFirst {h₀ h : Heap} {L : Addr} {p : Addr × Obj} {own : List (Addr × Obj)} (N : News h₀ L h ([p] ++ own)) : News h₀ L h (p :: own) := N
abbrev lvx (ha : Option Value) (d u : Nat) : Around := { handled := ha, depth := d, frames := none, guards := none, units := u }
theorem lowerx {α : Type} {M : Model} {A : Around} {t : Sem α} {Q : α → Shared → Prop} {E : Value → Shared → Prop} {s : Shared} {ha : Option Value} {d u : Nat}
    (h : wpAny M (lvx ha d u) t Q E s) (hh : A.handled = ha) (hd : A.depth ≤ d) (hu : A.units ≤ u) : wpAny M A t Q E s :=
  fun Γ p hΓ => h Γ p ⟨hΓ.1.trans hh, Nat.le_trans hΓ.2.1 hd, (fun _ e => by cases e), (fun _ e => by cases e), Nat.le_trans hΓ.2.2.2.2 hu⟩
theorem halt_of {P : Prop} (h : Halt P) : P := h
abbrev lvf (l : List Env) (d u : Nat) : Around := { handled := none, depth := d, frames := some l, guards := none, units := u }
theorem lowerf {α : Type} {M : Model} {A : Around} {t : Sem α} {Q : α → Shared → Prop} {E : Value → Shared → Prop} {s : Shared} {l : List Env} {d u : Nat}
    (h : wpAny M (lvf l d u) t Q E s) (hh : A.handled = none) (hf : A.frames = some l) (hd : A.depth ≤ d) (hu : A.units ≤ u) : wpAny M A t Q E s :=
  fun Γ p hΓ => h Γ p ⟨hΓ.1.trans hh, Nat.le_trans hΓ.2.1 hd, (fun _ e => hΓ.2.2.1 _ (hf.trans e)), (fun _ e => by cases e), Nat.le_trans hΓ.2.2.2.2 hu⟩
open TI in
/-- all is kept but the frames, and these up to their slots -/
def KpF (frs : List (Addr × Obj)) (h h' : Heap) : Prop := (∀ b o, b ∉ frs.map (·.1) → h.get? b = some o → h'.get? b = some o) ∧ ∃ frs', SameUp frs frs' ∧ ∀ p ∈ frs', h'.get? p.1 = some p.2
theorem gone_size (h : Heap) : ∀ l : List Addr, (TI.gone h l).objs.size = h.objs.size
  | [] => rfl
  | a :: l => (Heap.size_after_update ..).trans (gone_size h l)
theorem enterF {prog : Program} {w : World} {A : Around} {s : Shared} {K : Frag} {p : Program} {loose : List Str} {mean : ExcName → Option Value} {mg mb : Str → Option Value} {frs : List (Addr × Obj)}
    {Q E : Value → Shared → Prop} {name qual : Str} {params : Arguments} {body : List Stmt} {scope : Scope} {dV kV doc pm cdv ct oc : Value} {an od : Option Addr} {osl : Array (Option Value)} {f : Addr} {pos : List Value} {kw : List (Str × Value)} {binds : List (Str × Value)}
    (X : K.In (TI.gone s.heap (frs.map (·.1)))) (T : Top p loose mean mg mb (TI.gone s.heap (frs.map (·.1)))) (hfr : ∀ p ∈ frs, s.heap.get? p.1 = some p.2)
    (ho : K.lookup f = some ⟨oc, od, .func (fnOf name qual params body scope dV kV doc pm an cdv ct), osl⟩) (hcd : codeIn K cdv qual = true) (hroom : A.depth < recursionLimit)
    (hbind : BindsTo s (fnOf name qual params body scope dV kV doc pm an cdv ct) ⟨pos, kw⟩ binds) (hloc : ∀ y ∈ binds, scope.names.lookup y.1 = some .local)
    (hco : scope.isCoroutine = false) (hgen : scope.isGenerator = false) (hk : scope.kind = .function)
    (hcell : ∀ x ∈ scope.names, x.2 ≠ .cell)
    (h : ∀ L h₁, Fr (TI.gone s.heap (frs.map (·.1))) L h₁ (fun y => binds.reverse.lookup y) → News (TI.gone s.heap (frs.map (·.1))) L h₁ frs →
      wpAny (model prog w) (A.deeper (envOf qual scope L f cdv)) (execs body (envOf qual scope L f cdv))
        (fun fl s' => Q (match fl with | .ret v => v | _ => .none) s')
        (fun e s' => wpAny (model prog w) (A.deeper (envOf qual scope L f cdv)) (leaving (envOf qual scope L f cdv) e) (fun _ s'' => E e s'') (fun e' s'' => E e' s'') s')
        { s with heap := h₁, toks := s.toks + binds.length }) :
    wpAny (model prog w) A (call (.ref f) pos kw) Q E s := by
  have up : ∀ b o, (TI.gone s.heap (frs.map (·.1))).get? b = some o → s.heap.get? b = some o := fun b o e => (TI.gone_some e).2
  refine wpAny_call (codeAny_call_def (fd := fnOf name qual params body scope dV kV doc pm an cdv ct) (body := body) (binds := binds) hroom (up _ _ (X _ _ ho)) rfl (T.nolimit.keeps up) ((codeRec_of X hcd).keeps up) rfl hbind hcell hloc (fun h₁ hns hk₁ => ?_) hco hgen hk)
  refine wpAny_mono (h s.heap.objs.size h₁ ⟨hns, fun b o e => hk₁ b o (up b o e), Nat.le_of_eq (gone_size _ _)⟩ (fun p hp => ⟨hk₁ _ _ (hfr p hp), Nat.ne_of_lt (Heap.lt_size (hfr p hp)), TI.gone_none (List.mem_map_of_mem hp)⟩)) (fun fl s' x => x) (fun e s' x => x)
/-- behind a call that keeps all: what it made comes onto the ledger -/
theorem addNew {h₀ h h' : Heap} {L r : Addr} {m : Str → Option Value} {news : List (Addr × Obj)} {o : Obj} (F : Fr h₀ L h m) (N : News h₀ L h news) (k : Kp h h') (hr : h.get? r = none) (ho : h'.get? r = some o) : Fr h₀ L h' m ∧ News h₀ L h' ((r, o) :: news) := by
  refine ⟨⟨F.ns.keeps k, fun b o e => k b o (F.keep b o e), F.above⟩, fun p hp => ?_⟩
  rcases List.mem_cons.mp hp with rfl | hp
  · refine ⟨ho, fun e => ?_, TI.none_of F.keep hr⟩
    obtain ⟨oL, _, _, hL, _⟩ := F.ns
    have hr' : h.get? L = none := e ▸ hr
    rw [hr'] at hL; cases hL
  · exact ⟨k _ _ (N p hp).1, (N p hp).2⟩
theorem newsLt {h₀ h : Heap} {L r : Addr} {news : List (Addr × Obj)} (N : News h₀ L h news) (hr : h.get? r = none) : ∀ p ∈ news, p.1 ≠ r := fun p hp e => by
  have := (N p hp).1; rw [e, hr] at this; cases this
/-- the post and what the state carries, put out of sight -/
theorem absQ {α : Type} {M : Model} {A : Around} {t : Sem α} {Q : α → Shared → Prop} {E : Value → Shared → Prop} {h : Heap} {g : Array GenState} {d : Drawn} {tk : Nat} {o : OsState}
    (H : ∀ (st : Shared) (tk : Nat) (P : α → Shared → Prop), (∀ r h' tk', Q r ⟨h', g, d, tk', o⟩ → P r ⟨h', st.gens, st.drawn, tk', st.os⟩) → wpAny M A t P E ⟨h, st.gens, st.drawn, tk, st.os⟩) : wpAny M A t Q E ⟨h, g, d, tk, o⟩ :=
  H ⟨h, g, d, tk, o⟩ tk Q (fun _ _ _ x => x)
/-- the post for what is thrown, put out of sight -/
theorem absE {α : Type} {M : Model} {A : Around} {t : Sem α} {Q : α → Shared → Prop} {E : Value → Shared → Prop} {s : Shared} (H : ∀ E' : Value → Shared → Prop, wpAny M A t Q E' s) : wpAny M A t Q E s := H E
/-- nothing is thrown -/
theorem absF {α : Type} {M : Model} {A : Around} {t : Sem α} {Q : α → Shared → Prop} {E : Value → Shared → Prop} {s : Shared} (H : wpAny M A t Q (fun _ _ => False) s) : wpAny M A t Q E s := wpAny_mono H (fun _ _ x => x) (fun _ _ x => x.elim)
local macro_rules | `(tactic| walk_at "m steps") => `(tactic| ((try dsimp only); w_strict (repeat' (first | walk1 | (dsimp only; walk1)))))
local macro_rules | `(tactic| walk_at "n steps") => `(tactic| ((try dsimp only); w_strict (repeat' (first | (walk1 <;> try dsimp only) | (dsimp only; walk1 <;> try dsimp only)))))
local macro_rules | `(tactic| walk_at "m enter") => `(tactic| ((case ho => k_is); (case hcd => k_is); (case hroom => exact Nat.le_of_ble_eq_true rfl); (case hb => first | exact BindsTo.of_eq rfl | exact binds_K (by assumption) rfl (by k_is) rfl rfl rfl); (case hl => exact locs rfl); (case c1 => rfl); (case c2 => rfl); (case c3 => rfl); (case c4 => decide); k_whole))
local macro_rules | `(tactic| walk_at "m for") => `(tactic| ((rename Fr _ _ _ _ => lF'); (with_unfolding_all refine' For_halt lF' ?hx ?hp ?hE ?_ ?hs; (case hx => rfl); (case hp => rfl); (case hE => passes_own); (case hs => intro _; rfl))))
local macro_rules | `(tactic| walk_at "exec For Name Name cons nil") => `(tactic| walk_at "m for")
local macro_rules | `(tactic| walk_at "exec For Name Call cons nil") => `(tactic| walk_at "m for")
local macro_rules | `(tactic| walk_at "call ref") => `(tactic| ((with_reducible show wpAny _ _ (call (Value.ref _) _ _) _ _ _); refine halt_of ?_))
local macro_rules | `(tactic| walk_at "exec Try cons cons nil nil") => `(tactic| (with_reducible refine wpAny_Try_except ?_))
noncomputable def b64val (c : Int) : Int := if 65 ≤ c ∧ c ≤ 90 then c - 65 else if 97 ≤ c ∧ c ≤ 122 then c - 71 else if 48 ≤ c ∧ c ≤ 57 then c + 4 else if c = 43 then 62 else if c = 47 then 63 else 64
theorem b64v1 {c a : Int} (h : 65 ≤ c ∧ c ≤ 90) (e : a = c - 65) : a = b64val c := by rw [b64val, if_pos h, e]
theorem b64v2 {c a : Int} (h : 97 ≤ c ∧ c ≤ 122) (e : a = c - 71) : a = b64val c := by rw [b64val, if_neg (by omega), if_pos h, e]
theorem b64v3 {c a : Int} (h : 48 ≤ c ∧ c ≤ 57) (e : a = c + 4) : a = b64val c := by rw [b64val, if_neg (by omega), if_neg (by omega), if_pos h, e]
theorem b64v4 {c a : Int} (h : c = 43) (e : a = 62) : a = b64val c := by subst h; exact e
theorem b64v5 {c a : Int} (h : c = 47) (e : a = 63) : a = b64val c := by subst h; exact e
theorem b64v6 {c a : Int} (h1 : c < 65 ∨ 90 < c) (h2 : c < 97 ∨ 122 < c) (h3 : c < 48 ∨ 57 < c) (h4 : ¬c = 43) (h5 : ¬c = 47) (e : a = 64) : a = b64val c := by
  rw [b64val, if_neg (by omega), if_neg (by omega), if_neg (by omega), if_neg h4, if_neg h5, e]
theorem atInt {P : Value → Shared → Prop} {a b : Int} {t : Tok} {s : Shared} (h : P (.int a t) s) (e : a = b) : P (.int b t) s := e ▸ h
theorem b64v_spec {w : World} {mean : ExcName → Option Value} {mg mb : Str → Option Value} {s : Shared} {Q E : Value → Shared → Prop} {c : Int} {t : Tok}
    (X : (hd.heap_39 w.params).In s.heap) (T : Tp mean mg mb s.heap)
    (h : ∀ h' tk t', Kp s.heap h' → Q (.int (b64val c) t') { s with heap := h', toks := tk }) :
    wpAny (Md w) (lv 900 9000) (call (.ref 92) [.int c t]) Q E s := by
  w_on
  k_dflt (refine' enterP (binds := [(Str.ofString "c", .int c t)]) X T ?ho ?hcd ?hroom ?hb ?hl ?c1 ?c2 ?c3 ?c4 ?_; walk_at "m enter")
  intro L h₁ F N
  try dsimp only
  walk_at "m steps"
  all_goals (dsimp only; refine atInt (h _ _ _ F.keep) (Eq.symm ?_); first | exact b64v1 (by omega) (by omega) | exact b64v2 (by omega) (by omega) | exact b64v3 (by omega) (by omega) | exact b64v4 (by omega) (by omega) | exact b64v5 (by omega) (by omega) | exact b64v6 (by omega) (by omega) (by omega) (by omega) (by omega) (by omega))

/-- the things that lie in the law's lists: octets, texts, lists of numbers -/
inductive D where
  | b (x : Array UInt8)
  | s (x : Str)
  | n (x : List Int)
deriving DecidableEq

def Sees (h : Heap) (v : Value) : D → Prop
  | .b x => ∃ t, v = .bytes x t
  | .s x => ∃ t, v = .str x t
  | .n ns => ∃ a vs k, v = .ref a ∧ h.get? a = some (listOf vs.toArray k) ∧ IntsAre vs ns

theorem Sees.kp {h h' : Heap} {v : Value} {d : D} (x : Sees h v d) (k : Kp h h') : Sees h' v d := by
  cases d with
  | b x => exact x
  | s x => exact x
  | n ns => obtain ⟨a, vs, n, e, g, i⟩ := x; exact ⟨a, vs, n, e, k _ _ g, i⟩

/-- two kinds that decline each other -/
theorem declines {M : Model} {A : Around} {E : Value → Shared → Prop} {s : Shared} {a b : Value} {Ta Tb ida idb : String} {Q : Value → Shared → Prop} (ha : s.TypeIs a Ta) (hb : s.TypeIs b Tb) (hu : A.units < cLine)
    (hne : (Value.type Ta != Value.type Tb) = true) (hsub : isSubtype (.type Tb) (.type Ta) = pure false) (h1 : Slot Ta (cmpInfo .Eq).2.1 ida) (h2 : Slot Tb (cmpInfo .Eq).2.2 idb) (hk : isSame a b = pure false)
    (c1 : ∀ Q' : Value → Shared → Prop, Q' .notImplemented s → wpAny M A (call (.builtin ida) [a, b]) Q' E s)
    (c2 : ∀ Q' : Value → Shared → Prop, Q' .notImplemented s → wpAny M A (call (.builtin idb) [b, a]) Q' E s) (h : Q (.bool false) s) :
    wpAny M A (richCompare .Eq a b) Q E s := by
  rcases hi : cmpInfo CmpOp.Eq with ⟨sym, f, r⟩
  rw [hi] at h1 h2
  simp only [richCompare, hi, ha.oneThing_none]
  refine wpAny_holding (wpAny_bind (wpAny_cRoomFor hu ?_))
  refine wpAny_bind (wpAny_typeOf ha (wpAny_bind (wpAny_typeOf hb ?_)))
  simp only [hne, if_true]
  refine wpAny_bind (wpAny_of_eq hsub ?_)
  simp only [Bool.false_eq_true, if_false, Bool.not_false, if_true]
  refine wpAny_bind (m := tryCompare a _ b) (wpAny_tryCompare_declines ha h1 (c1 _ ⟨rfl, ?_⟩))
  refine wpAny_bind (m := tryCompare b _ a) (wpAny_tryCompare_declines hb h2 (c2 _ ⟨rfl, ?_⟩))
  exact wpAny_bind (wpAny_rule (wpAny_bind (wpAny_of_eq hk (wpAny_pure h))))

theorem slot_bytes_eqr : Slot "bytes" (cmpInfo .Eq).2.2 "bytes.__eq__" := FB.slot_bytes_eq
theorem str_eq_bytes (a : Str) (t : Tok) (b : Array UInt8) (u : Tok) : Gives (Builtin.«str.__eq__» ⟨[.str a t, .bytes b u], []⟩) (.val (Value.notImplemented)) :=
  .of_wp fun M A E s Q h => by obtain ⟨hp, g, d, tk, os⟩ := s; wp_walk; exact ⟨_, rfl, h⟩
theorem bytes_eq_str (a : Str) (t : Tok) (b : Array UInt8) (u : Tok) : Gives (Builtin.«bytes.__eq__» ⟨[.bytes b u, .str a t], []⟩) (.val (Value.notImplemented)) :=
  .of_wp fun M A E s Q h => by
    obtain ⟨hp, g, d, tk, os⟩ := s
    have h1 := F.sub_str_bytes
    have h2 : (⟨hp, g, d, tk, os⟩ : Shared).TypeIs (.str a t) "str" := rfl
    wp_walk
    exact ⟨_, rfl, h⟩
section
variable {prog : Program} {w : World} {A : Around} {E : Value → Shared → Prop} {s : Shared} {Q : Value → Shared → Prop}
theorem eq_str_bytes {a : Str} {t : Tok} {b : Array UInt8} {u : Tok} (hu : A.units < cLine) (h : Q (.bool false) s) : wpAny (model prog w) A (richCompare .Eq (.str a t) (.bytes b u)) Q E s :=
  declines (typeIs_str s a t) (typeIs_bytes s b u) hu (by decide) F.sub_bytes_str F.slot_str_eq slot_bytes_eqr rfl
    (fun _ q => call_gives F.slot_str_eq (typeIs_str s a t) F.entry_str_eq (F.args_str_eq_2 _ _) (str_eq_bytes a t b u) q)
    (fun _ q => call_gives FB.slot_bytes_eq (typeIs_bytes s b u) FB.entry_bytes_eq (FB.args_bytes_eq_2 _ _) (bytes_eq_str a t b u) q) h
theorem eq_bytes_str {a : Str} {t : Tok} {b : Array UInt8} {u : Tok} (hu : A.units < cLine) (h : Q (.bool false) s) : wpAny (model prog w) A (richCompare .Eq (.bytes b u) (.str a t)) Q E s :=
  declines (typeIs_bytes s b u) (typeIs_str s a t) hu (by decide) F.sub_str_bytes FB.slot_bytes_eq F.slot_str_eq_refl rfl
    (fun _ q => call_gives FB.slot_bytes_eq (typeIs_bytes s b u) FB.entry_bytes_eq (FB.args_bytes_eq_2 _ _) (bytes_eq_str a t b u) q)
    (fun _ q => call_gives F.slot_str_eq (typeIs_str s a t) F.entry_str_eq (F.args_str_eq_2 _ _) (str_eq_bytes a t b u) q) h


theorem call_b {T : String} {name : Str} {id : String} {B : Builtin} {self : Value} {rest : List Value} (slot : Slot T name id) (hT : s.TypeIs self T)
    (entry : entryFor table id = some B) (args : argsOk id ⟨self :: rest, []⟩)
    (g : wpAny (model prog w) A.in1 (B ⟨self :: rest, []⟩) (fun fin s' => match fin with | .done f => wants Q E (.ok f) s' | .again c' => c'.quiet = true ∧ codeAny (model prog w) A c' (wants Q E) s') (fun e s' => E e s') s) :
    wpAny (model prog w) A (call (.builtin id) (self :: rest)) Q E s :=
  wpAny_call (codeAny_call_builtin slot.plain entry (slot.check _ _ _ _ _ _ _ _ hT args g))
theorem isList_typeIs {l : Addr} {o : Obj} (h : s.heap.get? l = some o) (hc : o.cls = .type "list") : s.TypeIs (.ref l) "list" := ⟨o, h, hc⟩
theorem str_eq_ref {a : Str} {t : Tok} {l : Addr} {xs : Array Value} {k : Nat} (ho : s.heap.get? l = some (listOf xs k)) (q : Q .notImplemented s) :
    wpAny (model prog w) A (call (.builtin "str.__eq__") [.str a t, .ref l]) Q E s := by
  refine call_b F.slot_str_eq (typeIs_str s a t) F.entry_str_eq (F.args_str_eq_2 _ _) ?_
  have h1 := F.sub_list_str
  have h2 := isList_typeIs (s := s) ho rfl
  unfold Builtin.«str.__eq__»
  wp_walk
  exact q
theorem bytes_eq_ref {a : Array UInt8} {t : Tok} {l : Addr} {xs : Array Value} {k : Nat} (ho : s.heap.get? l = some (listOf xs k)) (q : Q .notImplemented s) :
    wpAny (model prog w) A (call (.builtin "bytes.__eq__") [.bytes a t, .ref l]) Q E s := by
  refine call_b FB.slot_bytes_eq (typeIs_bytes s a t) FB.entry_bytes_eq (FB.args_bytes_eq_2 _ _) ?_
  have h1 := F.sub_list_bytes
  have h2 := isList_typeIs (s := s) ho rfl
  wp_walk
  exact q
theorem list_eq_str {a : Str} {t : Tok} {l : Addr} {xs : Array Value} {k : Nat} (ho : s.heap.get? l = some (listOf xs k)) (q : Q .notImplemented s) :
    wpAny (model prog w) A (call (.builtin "list.__eq__") [.ref l, .str a t]) Q E s := by
  refine call_b F.slot_list_eq (isList_typeIs ho rfl) F.entry_list_eq (F.args_list_eq_2 _ _) ?_
  have h1 := F.sub_str_list
  have h2 := typeIs_str s a t
  wp_walk
  exact q
theorem list_eq_bytes {a : Array UInt8} {t : Tok} {l : Addr} {xs : Array Value} {k : Nat} (ho : s.heap.get? l = some (listOf xs k)) (q : Q .notImplemented s) :
    wpAny (model prog w) A (call (.builtin "list.__eq__") [.ref l, .bytes a t]) Q E s := by
  refine call_b F.slot_list_eq (isList_typeIs ho rfl) F.entry_list_eq (F.args_list_eq_2 _ _) ?_
  have h1 := F.sub_bytes_list
  have h2 := typeIs_bytes s a t
  wp_walk
  exact q
theorem rcEq {x y : Value} {d e : D} (hx : Sees s.heap x d) (hy : Sees s.heap y e) (hu : A.units + 64 < cLine) (h : Q (.bool (decide (d = e))) s) : wpAny (model prog w) A (richCompare .Eq x y) Q E s := by
  have hu' : A.units < cLine := by omega
  cases d with
  | b x =>
    obtain ⟨t, rfl⟩ := hx
    cases e with
    | b y =>
      obtain ⟨u, rfl⟩ := hy
      refine eq_bytes (h := ?_)
      have e1 : (x.toList == y.toList) = decide (D.b x = D.b y) := by
        rw [Bool.eq_iff_iff]; simp [Array.toList_inj]
      rw [e1]; exact h
    | s y =>
      obtain ⟨u, rfl⟩ := hy
      exact eq_bytes_str hu' (by simpa using h)
    | n y =>
      obtain ⟨l, vs, k, rfl, ho, hi⟩ := hy
      exact declines (typeIs_bytes s x t) (isList_typeIs ho rfl) hu' (by decide) F.sub_list_bytes FB.slot_bytes_eq F.slot_list_eq_refl rfl (fun _ q => bytes_eq_ref ho q) (fun _ q => list_eq_bytes ho q) (by simpa using h)
  | s x =>
    obtain ⟨t, rfl⟩ := hx
    cases e with
    | b y =>
      obtain ⟨u, rfl⟩ := hy
      exact eq_str_bytes hu' (by simpa using h)
    | s y =>
      obtain ⟨u, rfl⟩ := hy
      refine PyProof.Rows.eq_str (h := ?_)
      have e1 : (x == y) = decide (D.s x = D.s y) := by
        rw [Bool.eq_iff_iff]; simp
      rw [e1]; exact h
    | n y =>
      obtain ⟨l, vs, k, rfl, ho, hi⟩ := hy
      exact declines (typeIs_str s x t) (isList_typeIs ho rfl) hu' (by decide) F.sub_list_str F.slot_str_eq F.slot_list_eq_refl rfl (fun _ q => str_eq_ref ho q) (fun _ q => list_eq_str ho q) (by simpa using h)
  | n x =>
    obtain ⟨l, vs, k, rfl, ho, hi⟩ := hx
    cases e with
    | b y =>
      obtain ⟨u, rfl⟩ := hy
      exact declines (isList_typeIs ho rfl) (typeIs_bytes s y u) hu' (by decide) F.sub_bytes_list F.slot_list_eq slot_bytes_eqr rfl (fun _ q => list_eq_bytes ho q) (fun _ q => bytes_eq_ref ho q) (by simpa using h)
    | s y =>
      obtain ⟨u, rfl⟩ := hy
      exact declines (isList_typeIs ho rfl) (typeIs_str s y u) hu' (by decide) F.sub_str_list F.slot_list_eq F.slot_str_eq_refl rfl (fun _ q => list_eq_str ho q) (fun _ q => str_eq_ref ho q) (by simpa using h)
    | n y =>
      obtain ⟨l', vs', k', rfl, ho', hi'⟩ := hy
      refine ke_eq_ints (h := ?_) ⟨_, ho, rfl, k, rfl⟩ ⟨_, ho', rfl, k', rfl⟩ hi hi' hu
      have e1 : decide (x = y) = decide (D.n x = D.n y) := by
        rw [Bool.eq_iff_iff]; simp
      rw [e1]; exact h
end
theorem IntsAre.uniq {vs : List Value} {a b : List Int} (h : IntsAre vs a) : IntsAre vs b → a = b := by
  induction h generalizing b with
  | nil => intro h'; cases h'; rfl
  | cons _ _ _ ih => intro h'; cases h' with | cons _ _ h' => rw [ih h']
theorem Sees.uniq {h : Heap} {v : Value} {d e : D} (x : Sees h v d) (y : Sees h v e) : d = e := by
  cases d with
  | b a =>
    obtain ⟨t, rfl⟩ := x
    cases e with
    | b c => obtain ⟨u, q⟩ := y; cases q; rfl
    | s c => obtain ⟨u, q⟩ := y; cases q
    | n c => obtain ⟨_, _, _, q, _⟩ := y; cases q
  | s a =>
    obtain ⟨t, rfl⟩ := x
    cases e with
    | b c => obtain ⟨u, q⟩ := y; cases q
    | s c => obtain ⟨u, q⟩ := y; cases q; rfl
    | n c => obtain ⟨_, _, _, q, _⟩ := y; cases q
  | n a =>
    obtain ⟨l, vs, k, rfl, ho, hi⟩ := x
    cases e with
    | b c => obtain ⟨u, q⟩ := y; cases q
    | s c => obtain ⟨u, q⟩ := y; cases q
    | n c =>
      obtain ⟨l', vs', k', q, ho', hi'⟩ := y
      cases q
      rw [ho] at ho'
      cases ho'
      rw [IntsAre.uniq hi hi']
theorem eqAt_sees {A : Around} {s : Shared} {x y : Value} {d e : D} (hx : Sees s.heap x d) (hy : Sees s.heap y e) (hu : A.units + 64 < cLine) : PySem.SeqAt.EqAt A s x y (decide (d = e)) := by
  intro prog w E Q hq
  unfold eqBool
  refine wpAny_holding ?_
  refine wpAny_ite_split (fun hab => ?_) (fun _ => ?_)
  · have e1 := eq_of_beq hab
    subst e1
    have e2 := hx.uniq hy
    subst e2
    exact wpAny_bind (wpAny_rule (wpAny_pure (by simpa using hq)))
  · have hx' := hx
    cases d with
    | b a => obtain ⟨t, rfl⟩ := hx'; exact wpAny_bind (rcEq hx hy hu (wpAny_truthy_bool hq))
    | s a => obtain ⟨t, rfl⟩ := hx'; exact wpAny_bind (rcEq hx hy hu (wpAny_truthy_bool hq))
    | n a => obtain ⟨_, _, _, rfl, _⟩ := hx'; exact wpAny_bind (rcEq hx hy hu (wpAny_truthy_bool hq))

inductive AllSees (h : Heap) : List Value → List D → Prop
  | nil : AllSees h [] []
  | cons {v : Value} {d : D} {vs : List Value} {ds : List D} : Sees h v d → AllSees h vs ds → AllSees h (v :: vs) (d :: ds)
theorem AllSees.kp {h h' : Heap} (k : Kp h h') {vs : List Value} {ds : List D} (r : AllSees h vs ds) : AllSees h' vs ds := by
  induction r with
  | nil => exact .nil
  | cons x _ ih => exact .cons (x.kp k) ih
theorem AllSees.length {h : Heap} {vs : List Value} {ds : List D} (r : AllSees h vs ds) : vs.length = ds.length := by
  induction r with
  | nil => rfl
  | cons _ _ ih => rw [List.length_cons, List.length_cons, ih]
theorem AllSees.append {h : Heap} {vs : List Value} {ds : List D} {vs' : List Value} {ds' : List D} (r : AllSees h vs ds) (r' : AllSees h vs' ds') : AllSees h (vs ++ vs') (ds ++ ds') := by
  induction r with
  | nil => exact r'
  | cons x _ ih => exact .cons x ih
theorem AllSees.get {h : Heap} {vs : List Value} {ds : List D} (r : AllSees h vs ds) : ∀ (i : Nat) (v : Value), vs[i]? = some v → ∃ d, ds[i]? = some d ∧ Sees h v d := by
  induction r with
  | nil => intro i v e; rw [List.getElem?_nil] at e; cases e
  | cons x _ ih =>
    intro i v e
    cases i with
    | zero => exact ⟨_, rfl, Option.some.inj e ▸ x⟩
    | succ i => exact ih i v e
theorem AllSees.mem {h : Heap} {vs : List Value} {ds : List D} (r : AllSees h vs ds) : ∀ v ∈ vs, ∃ d, d ∈ ds ∧ Sees h v d := by
  induction r with
  | nil => intro v hv; exact nomatch hv
  | cons x _ ih =>
    intro v hv
    rcases List.mem_cons.mp hv with e | hv
    · exact ⟨_, List.mem_cons_self .., e ▸ x⟩
    · obtain ⟨d, h1, h2⟩ := ih v hv
      exact ⟨d, List.mem_cons_of_mem _ h1, h2⟩
noncomputable def isD (h : Heap) (d : D) (v : Value) : Bool := @decide (Sees h v d) (Classical.propDecidable _)
theorem isD_eq {h : Heap} {v : Value} {d e : D} (x : Sees h v e) : isD h d v = decide (e = d) := by
  unfold isD
  rw [Bool.eq_iff_iff]
  simp only [decide_eq_true_eq]
  exact ⟨fun y => x.uniq y, fun y => y ▸ x⟩
theorem AllSees.any {h : Heap} {d : D} : ∀ {vs : List Value} {ds : List D}, AllSees h vs ds → vs.any (isD h d) = decide (d ∈ ds)
  | _, _, .nil => by simp
  | _, _, .cons (d := e) x r => by
    rw [List.any_cons, AllSees.any r, isD_eq x, Bool.eq_iff_iff]
    simp only [Bool.or_eq_true, decide_eq_true_eq, List.mem_cons]
    constructor
    · rintro (q | q)
      · exact .inl q.symm
      · exact .inr q
    · rintro (q | q)
      · exact .inl q.symm
      · exact .inr q
theorem AllSees.countP {h : Heap} {d : D} {vs : List Value} {ds : List D} (r : AllSees h vs ds) : vs.countP (isD h d) = ds.count d := by
  induction r with
  | nil => rfl
  | cons x _ ih =>
    rw [List.countP_cons, ih, isD_eq x, List.count_cons]
    simp
theorem eqAt_all {A : Around} {s : Shared} {vs : List Value} {ds : List D} {x : Value} {d : D} (hv : AllSees s.heap vs ds) (hx : Sees s.heap x d) (hu : A.units + 64 < cLine) : ∀ y, y ∈ vs.toArray → PySem.SeqAt.EqAt A s y x (isD s.heap d y) := by
  intro y hy
  obtain ⟨e, _, h2⟩ := hv.mem y (by simpa using hy)
  rw [isD_eq h2]
  exact eqAt_sees h2 hx hu
section
variable {prog : Program} {w : World} {A : Around} {E : Value → Shared → Prop} {s : Shared} {Q : Value → Shared → Prop} {l : Addr} {vs : List Value} {ds : List D} {x : Value} {d : D}
theorem notIn_sees (hl : s.heap.IsList l vs.toArray) (hv : AllSees s.heap vs ds) (hx : Sees s.heap x d) (hu : A.units + 65 < cLine) (h : Q (.bool (!decide (d ∈ ds))) s) : wpAny (model prog w) A (compareOp .NotIn x (.ref l)) Q E s := by
  refine PySem.SeqAt.notIn_listAt (isD s.heap d) hl (eqAt_all (A := A.in1) hv hx (by show A.units + 1 + 64 < cLine; omega)) ?_
  rw [List.any_toArray, hv.any]; exact h
theorem count_sees (hl : s.heap.IsList l vs.toArray) (hv : AllSees s.heap vs ds) (hx : Sees s.heap x d) (hu : A.units + 65 < cLine) (h : Q (.int (ds.count d : Nat) s.toks) { s with toks := s.toks + 1 }) : wpAny (model prog w) A (call (.builtin "list.count") [.ref l, x]) Q E s := by
  obtain ⟨⟨cls, dd, data, sl⟩, ho, hc, n, hd⟩ := id hl
  simp only at hc hd
  subst hc hd
  refine call_meets PySem.F.slot_list_count ⟨_, ho, rfl⟩ PySem.F.entry_list_count (PySem.F.args_list_count_2 _ _) (PySem.SeqAt.list_countAt l vs.toArray n dd sl x (isD s.heap d)) ⟨ho, eqAt_all (A := A.in1) hv hx (by show A.units + 1 + 64 < cLine; omega), ?_⟩
  rw [show vs.toArray.toList = vs from rfl, hv.countP]
  exact h
end
/-- ws are some of vs, and what these are, wherever they are seen -/
def Sub (vs : List Value) (ds : List D) (ws : List Value) (es : List D) : Prop := ∀ g, AllSees g vs ds → AllSees g ws es
theorem Sub.snoc {vs : List Value} {ds : List D} {ws : List Value} {es : List D} {i : Nat} {v : Value} {d : D} (x : Sub vs ds ws es) (hv : vs[i]? = some v) (hd : ds[i]? = some d) : Sub vs ds (ws ++ [v]) (es ++ [d]) := fun g y => by
  obtain ⟨d', h1, h2⟩ := y.get i v hv
  rw [hd] at h1
  cases h1
  exact (x g y).append (.cons h2 .nil)
theorem Sub.nil {vs : List Value} {ds : List D} : Sub vs ds [] [] := fun _ _ => .nil

local macro_rules | `(tactic| walk_at "call type:type") => `(tactic| ((with_reducible show wpAny _ _ (call _ [Value.bytes _ _]) _ _ _); refine call_type_of (Tx := "bytes") rfl (by decide +kernel) ?_))
theorem atBool {P : Value → Shared → Prop} {a b : Bool} {s : Shared} (h : P (.bool a) s) (e : a = b) : P (.bool b) s := e ▸ h
theorem truth_spec {w : World} {mean : ExcName → Option Value} {mg mb : Str → Option Value} {s : Shared} {Q E : Value → Shared → Prop} {b : Bool}
    (X : (hd.heap_39 w.params).In s.heap) (T : Tp mean mg mb s.heap)
    (h : ∀ h' tk, Kp s.heap h' → Q (.bool b) { s with heap := h', toks := tk }) :
    wpAny (Md w) (lv 900 9000) (call (.ref 85) [.bool b]) Q E s := by
  w_on
  k_dflt (refine' enterP (binds := [(Str.ofString "x", .bool b)]) X T ?ho ?hcd ?hroom ?hb ?hl ?c1 ?c2 ?c3 ?c4 ?_; walk_at "m enter")
  intro L h₁ F N
  walk_at "m steps"
  all_goals (dsimp only; rename Fr _ _ _ _ => F'; exact atBool (h _ _ F'.keep) (by assumption))
theorem buffer_spec {w : World} {mean : ExcName → Option Value} {mg mb : Str → Option Value} {s : Shared} {Q E : Value → Shared → Prop} {b : Array UInt8} {t : Tok}
    (X : (hd.heap_39 w.params).In s.heap) (T : Tp mean mg mb s.heap)
    (h : ∀ h' tk, Kp s.heap h' → Q (.bytes b t) { s with heap := h', toks := tk }) :
    wpAny (Md w) (lv 900 9000) (call (.ref 78) [.bytes b t]) Q E s := by
  w_on
  k_dflt (refine' enterP (binds := [(Str.ofString "data", .bytes b t)]) X T ?ho ?hcd ?hroom ?hb ?hl ?c1 ?c2 ?c3 ?c4 ?_; walk_at "m enter")
  intro L h₁ F N
  walk_at "m steps"
  all_goals (dsimp only; rename Fr _ _ _ _ => F'; exact h _ _ F'.keep)
theorem abuffer_spec {w : World} {mean : ExcName → Option Value} {mg mb : Str → Option Value} {s : Shared} {Q E : Value → Shared → Prop} {b : Array UInt8} {t : Tok}
    (X : (hd.heap_39 w.params).In s.heap) (T : Tp mean mg mb s.heap)
    (h : ∀ h' tk, Kp s.heap h' → Q (.bytes b t) { s with heap := h', toks := tk }) :
    wpAny (Md w) (lv 900 9000) (call (.ref 71) [.bytes b t]) Q E s := by
  w_on
  k_dflt (refine' enterP (binds := [(Str.ofString "data", .bytes b t)]) X T ?ho ?hcd ?hroom ?hb ?hl ?c1 ?c2 ?c3 ?c4 ?_; walk_at "m enter")
  intro L h₁ F N
  walk_at "m steps"
  all_goals (dsimp only; rename Fr _ _ _ _ => F'; exact h _ _ F'.keep)
section
variable {prog : Program} {w : World} {A : Around} {E : Value → Shared → Prop} {s : Shared}
theorem method_encode {M : Model} {x : Str} {t : Tok} {pl : Sem Bool} {Q : Value × List Value → Shared → Prop} (h : Q (.builtin "str.encode", [.str x t]) s) : wpAny M A (getMethod (.str x t) (Str.ofString "encode") pl) Q E s :=
  getMethod_builtin (typeIs_str _ _ _) F.plainAttrs_str F.slot_str_encode F.type_str_encode (fun _ e => nomatch e) h
end

section
variable {prog : Program} {w : World} {A : Around} {E : Value → Shared → Prop} {s : Shared}
theorem plain_unchain : plainId "proto.unchain" = true := by decide +kernel
theorem entry_unchain : entryFor table "proto.unchain" = some Builtin.«proto.unchain» := entryFor_of_tree (by kernel_rfl)
theorem unchain_none {e he : Addr} {oe : Obj} {ws : Array Value} {Q : Value → Shared → Prop} (hoe : s.heap.get? he = some oe) (hde : oe.data = .fields ws) (hc : ws[2]? = some .none) (h : Q .none s) :
    wpAny (model prog w) A (runValue (.builtin "proto.unchain" ⟨[.ref e, .ref he, .ref he, .bool false], []⟩)) Q E s := by
  refine wpAny_runValue (codeAny_builtin entry_unchain ?_)
  rw [Around.under_plainId plain_unchain _]
  show wpAny _ _ (field (.ref he) 2 >>= _) _ _ s
  refine wpAny_bind (wpAny_field hoe hde hc ?_)
  exact wpAny_pure h
/-- a new exception raised while one without a context is handled -/
theorem raiseNew_under {α : Type} {e he : Addr} {oe o : Obj} {ws vs : Array Value} {Q : α → Shared → Prop} (hh : A.handled = some (.ref he)) (hoe : s.heap.get? he = some oe) (hde : oe.data = .fields ws) (hc : ws[2]? = some .none) (hne : he ≠ e)
    (ho : s.heap.get? e = some o) (hd : o.data = .fields vs) (hz : 2 < vs.size)
    (h : E (.ref e) { s with heap := s.heap.update e (Obj.mapFields (·.setIfInBounds 2 (.ref he))) }) : wpAny (model prog w) A (raiseNew (α := α) (.ref e)) Q E s := by
  unfold raiseNew
  refine wpAny_bind (wpAny_handled ?_)
  rw [hh]
  have hb : (Value.ref he != Value.ref e) = true := by simp [hne]
  simp only [hb, if_true]
  refine wpAny_bind (wpAny_holding (unchain_none hoe hde hc ?_))
  refine wpAny_bind ?_
  unfold updateField
  refine wpAny_bind (wpAny_load ho ?_)
  rw [hd]
  simp only [hz, if_true]
  exact wpAny_update ho (wpAny_throw h)
theorem next_endH {it l he : Addr} {i : Nat} {items : Array Value} {oe : Obj} {ws : Array Value} {Q : Option Value → Shared → Prop} (hh : A.handled = some (.ref he)) (hoe : s.heap.get? he = some oe) (hde : oe.data = .fields ws) (hc : ws[2]? = some .none) (hne : he ≠ it)
    (hit : s.heap.IsListIter it l i) (hl : s.heap.IsList l items) (hx : items[i]? = none)
    (hQ : ∀ h', Heap.ExtBut it s.heap h' → Q none { s with heap := h' }) : wpAny (model prog w) A (pyNext (.ref it)) Q E s := by
  obtain ⟨o, ho, hco, hd⟩ := id hit
  obtain ⟨ol, hol, _, nl, hdl⟩ := hl
  unfold pyNext
  refine wpAny_bind (wpAny_attempt (wpAny_callSpecial?_slot (name := Str.ofString "__next__") hit.typeIs slot_listiter_next
    (wpAny_call_entry slot_listiter_next hit.typeIs entry_listiter_next ?_ (args_listiter_next _))))
  show wpAny _ _ (field (.ref it) 0 >>= _) _ _ s
  refine wpAny_bind (wpAny_field ho hd (x := .ref l) rfl ?_)
  show wpAny _ _ (if (Value.ref l == Value.none) = true then _ else _) _ _ s
  rw [if_neg (show ¬ ((Value.ref l == Value.none) = true) from Bool.false_ne_true)]
  show wpAny _ _ (field (.ref it) 1 >>= _) _ _ s
  refine wpAny_bind (wpAny_field ho hd (x := .int i 0) rfl ?_)
  show wpAny _ _ (seqItems? (.ref l) >>= _) _ _ s
  refine wpAny_bind (wpAny_seqItems hol hdl ?_)
  simp only [Int.toNat_natCast, hx]
  refine wpAny_bind (wpAny_rule (wpAny_bind (wpAny_setField ho hd (by simp) ?_)))
  show wpAny _ _ (newExc (.type "StopIteration") [] >>= _) _ _ _
  refine wpAny_bind ?_
  simp only [newExc, newTuple]
  refine wpAny_bind (wpAny_newObj_type ?_ (by size_fits))
  refine wpAny_bind (m := firstArgMember _ _) (wpAny_of_eq (a := Value.none) (by first | rfl | (simp only [firstArgMember]; rfl)) ?_)
  refine wpAny_newObj_type ?_ (by size_fits)
  have hk1 := Heap.get?_push_of_some (h := s.heap.update it (Obj.mapFields (·.setIfInBounds 0 .none))) { cls := .type "tuple", data := .seq ([] : List Value).toArray } ((Heap.get?_update_other _ _ (Ne.symm hne)).trans hoe)
  have hlt := Heap.lt_size hk1
  refine raiseNew_under (A := A.in1) hh (Heap.get?_push_of_some _ hk1) hde hc (Nat.ne_of_lt hlt) (Heap.get?_push_size _ rfl) rfl (by simp; omega) ?_
  refine wpAny_bind (wpAny_isInstance (T := "StopIteration") (b := true) ⟨_, Heap.get?_update_self _ (Heap.get?_push_size _ rfl) rfl, rfl⟩ isSubtype_stop ?_)
  refine wpAny_pure (hQ _ fun b o' hb eb => ?_)
  have x1 := Heap.get?_push_of_some (h := s.heap.update it (Obj.mapFields (·.setIfInBounds 0 .none))) { cls := .type "tuple", data := .seq ([] : List Value).toArray } ((Heap.get?_update_other _ _ (Ne.symm hb)).trans eb)
  exact (Heap.get?_update_other _ _ (Ne.symm (Nat.ne_of_lt (Heap.lt_size x1)))).trans (Heap.get?_push_of_some _ x1)
/-- what is handled: nothing, or an exception without a context, at hand in the heap -/
def HandOk (ha : Option Value) (ex : List (Addr × Obj)) : Prop := (ha = none ∧ ex = []) ∨ ∃ he oe ws, ha = some (.ref he) ∧ ex = [(he, oe)] ∧ oe.data = .fields ws ∧ ws[2]? = some .none
theorem walks_listH {ha : Option Value} {ex : List (Addr × Obj)} (hx : HandOk ha ex) (hA : A.handled = ha) (I ax : Addr) (hne : ax ≠ I) (hex : ∀ p ∈ ex, p.1 ≠ I) (items : Array Value) :
    Walks prog w A I (I :: ax :: ex.map (·.1)) [I] items.size (fun i v => items[i]? = some v) (fun i h => h.IsListIter I ax i ∧ h.IsList ax items ∧ ∀ p ∈ ex, h.get? p.1 = some p.2) where
  sub := fun b hb => by rw [List.mem_singleton.mp hb]; exact .head _
  frame := fun _ _ _ st hk => ⟨st.1.at fun o e => hk I (.head _) o e, st.2.1.at fun o e => hk ax (.tail _ (.head _)) o e, fun p hp => hk p.1 (.tail _ (.tail _ (List.mem_map_of_mem hp))) _ (st.2.2 p hp)⟩
  item := fun i s Q E hi st hQ => by
    refine wpAny_pyNext_list_item st.1 st.2.1 (x := items[i]) (by simp [hi]) fun h' hit' hs' => ?_
    exact hQ _ h' s.toks (by simp [hi]) ⟨hit', st.2.1.extBut hs'.extBut hne, fun p hp => hs'.extBut p.1 p.2 (hex p hp) (st.2.2 p hp)⟩ fun b o hb e => hs'.extBut b o (fun h => hb (by simp [h])) e
  done := fun s Q E st hQ => by
    rcases hx with ⟨h1, h2⟩ | ⟨he, oe, ws, h1, h2, h3, h4⟩
    · exact wpAny_pyNext_list_end (hA.trans h1) st.1 st.2.1 (by simp) fun h' he' => hQ h' s.toks fun b o hb e => he' b o (fun h => hb (by simp [h])) e
    · subst h2
      exact next_endH (hA.trans h1) (st.2.2 _ (.head _)) h3 h4 (hex _ (.head _)) st.1 st.2.1 (by simp) fun h' he' => hQ h' s.toks fun b o hb e => he' b o (fun h => hb (by simp [h])) e
  self := fun _ _ _ _ st hQ => wpAny_pyIter_listiter st.1 hQ
end
section
variable {prog : Program} {w : World} {A : Around} {E : Value → Shared → Prop} {s : Shared} {env : Env} {h₀ : Heap} {x : Str} {body : List Stmt} {Q : Flow → Shared → Prop}
theorem for_valsH {l : Addr} {vs : List Value} {m₀ : Str → Option Value} {news : List (Addr × Obj)} {ha : Option Value} {ex : List (Addr × Obj)} (J : Nat → (Str → Option Value) → List (Addr × Obj) → Prop)
    (hx : HandOk ha ex) (hA : A.handled = ha) (hex : ∀ p ∈ ex, h₀.get? p.1 = some p.2) (hl : h₀.IsList l vs.toArray) (F : Fr h₀ env.locals s.heap m₀) (N : News h₀ env.locals s.heap news) (hj : J 0 m₀ news)
    (turn : ∀ i v m₁ news₁ h tk own, vs[i]? = some v → news₁.map (·.1) = news.map (·.1) → OwnOff own (news.map (·.1)) → J i m₁ news₁ → Fr h₀ env.locals h (fun y => if y = x then some v else m₁ y) → News h₀ env.locals h (news₁ ++ own) →
      wpAny (model prog w) A (execs body env) (InvPostN h₀ env.locals (J (i + 1)) own (news.map (·.1)) { s with heap := h, toks := tk } Q) E { s with heap := h, toks := tk })
    (done : ∀ m₁ news₁ h tk, J vs.length m₁ news₁ → Fr h₀ env.locals h m₁ → News h₀ env.locals h news₁ → Q .next { s with heap := h, toks := tk }) :
    wpAny (model prog w) A (pyIter (.ref l)) (fun it s₂ => LoopAtV prog w A h₀ env x body Q E it s₂) E s := by
  have hls : s.heap.IsList l vs.toArray := hl.at fun o e => F.keep l o e
  obtain ⟨ol, hol, _⟩ := id hl
  have hlt : l < h₀.objs.size := Heap.lt_size hol
  have big : ∀ {b : Addr} {o : Obj}, h₀.get? b = some o → b < s.heap.objs.size := fun e => Nat.lt_trans (Nat.lt_of_lt_of_le (Heap.lt_size e) F.above) F.ns.lt
  have hne : l ≠ s.heap.objs.size := Nat.ne_of_lt (big hol)
  refine wpAny_pyIter_list hls ?_
  have W := walks_listH (prog := prog) (w := w) hx hA s.heap.objs.size l hne (fun p hp => Nat.ne_of_lt (big (hex p hp))) vs.toArray
  have hlen : vs.toArray.size = vs.length := by simp
  rw [hlen] at W
  refine loop_invN J W ?_ ?_ ?_ ?_ ⟨⟨_, Heap.get?_push_size _ rfl, rfl, rfl⟩, hls.at (fun o e => Heap.get?_push_of_some _ e), fun p hp => Heap.get?_push_of_some _ (F.keep _ _ (hex p hp))⟩ (F.push _) (fun p hp => ⟨Heap.get?_push_of_some _ (N p hp).1, (N p hp).2⟩) hj ?_ ?_
  · intro hm
    rcases List.mem_cons.mp hm with e | hm
    · exact absurd F.ns.lt (e ▸ Nat.lt_irrefl _)
    · rcases List.mem_cons.mp hm with e | hm
      · exact absurd (Nat.lt_of_lt_of_le hlt F.above) (e ▸ Nat.lt_irrefl _)
      · obtain ⟨p, hp, e⟩ := List.mem_map.mp hm
        exact absurd (Nat.lt_of_lt_of_le (Heap.lt_size (hex p hp)) F.above) (e ▸ Nat.lt_irrefl _)
  · intro b hb
    rw [List.mem_singleton.mp hb]
    exact next_is_new F
  · intro p hp hI
    exact absurd (Heap.lt_size (N p hp).1) ((List.mem_singleton.mp hI) ▸ Nat.lt_irrefl _)
  · intro p hp hI
    rcases List.mem_cons.mp hI with e | hI
    · exact absurd (Heap.lt_size (N p hp).1) (e ▸ Nat.lt_irrefl _)
    · have h3 := (N p hp).2.2
      rcases List.mem_cons.mp hI with e | hI
      · rw [e, hol] at h3; cases h3
      · obtain ⟨q, hq, e⟩ := List.mem_map.mp hI
        rw [← e, hex q hq] at h3; cases h3
  · intro i v m₁ news₁ h tk own hi hP
    exact turn i v m₁ news₁ h tk own (by simpa using hP)
  · exact done
end

section
variable {prog : Program} {w : World} {A : Around} {E : Value → Shared → Prop} {s : Shared} {env : Env} {h₀ : Heap} {x : Str} {body : List Stmt} {Q : Flow → Shared → Prop}
theorem for_vals {l : Addr} {vs : List Value} {m₀ : Str → Option Value} {news : List (Addr × Obj)} (J : Nat → (Str → Option Value) → List (Addr × Obj) → Prop)
    (hh : A.handled = none) (hl : h₀.IsList l vs.toArray) (F : Fr h₀ env.locals s.heap m₀) (N : News h₀ env.locals s.heap news) (hj : J 0 m₀ news)
    (turn : ∀ i v m₁ news₁ h tk own, vs[i]? = some v → news₁.map (·.1) = news.map (·.1) → OwnOff own (news.map (·.1)) → J i m₁ news₁ → Fr h₀ env.locals h (fun y => if y = x then some v else m₁ y) → News h₀ env.locals h (news₁ ++ own) →
      wpAny (model prog w) A (execs body env) (InvPostN h₀ env.locals (J (i + 1)) own (news.map (·.1)) { s with heap := h, toks := tk } Q) E { s with heap := h, toks := tk })
    (done : ∀ m₁ news₁ h tk, J vs.length m₁ news₁ → Fr h₀ env.locals h m₁ → News h₀ env.locals h news₁ → Q .next { s with heap := h, toks := tk }) :
    wpAny (model prog w) A (pyIter (.ref l)) (fun it s₂ => LoopAtV prog w A h₀ env x body Q E it s₂) E s :=
  for_valsH (ex := []) J (.inl ⟨rfl, rfl⟩) hh (fun _ hp => nomatch hp) hl F N hj turn done
end
/-- what a list of things is when each is kept once, by the first -/
noncomputable def once (ds : List D) : List D := ds.foldl (fun k d => if d ∈ k then k else k ++ [d]) []
theorem take_snoc {α : Type} {l : List α} {i : Nat} {a : α} (h : l[i]? = some a) : l.take (i + 1) = l.take i ++ [a] := by
  rw [List.take_add_one, h]; rfl
theorem once_take {ds : List D} {i : Nat} {d : D} (h : ds[i]? = some d) : once (ds.take (i + 1)) = if d ∈ once (ds.take i) then once (ds.take i) else once (ds.take i) ++ [d] := by
  unfold once
  rw [take_snoc h, List.foldl_append]
  rfl
theorem once_len (ds : List D) : (once ds).length ≤ ds.length := by
  have : ∀ (l k : List D), (l.foldl (fun k d => if d ∈ k then k else k ++ [d]) k).length ≤ k.length + l.length := by
    intro l
    induction l with
    | nil => intro k; simp
    | cons a l ih =>
      intro k
      rw [List.foldl_cons]
      refine Nat.le_trans (ih _) ?_
      split <;> simp <;> omega
  simpa [once] using this ds []
theorem app_first {prog : Program} {w : World} {A : Around} {E : Value → Shared → Prop} {s : Shared} {h₀ : Heap} {L r : Addr} {m : Str → Option Value} {ws : List Value} {n : Nat} {v : Value} {own : List (Addr × Obj)} {Q : Value → Shared → Prop}
    (F : Fr h₀ L s.heap m) (N : News h₀ L s.heap ((r, listOf ws.toArray n) :: own)) (ho : ∀ p ∈ own, p.1 ≠ r) (hz : ws.length ≤ 10000)
    (h : ∀ h', Fr h₀ L h' m → News h₀ L h' ((r, listOf (ws ++ [v]).toArray (n + 1)) :: own) → Q .none { s with heap := h' }) :
    wpAny (model prog w) A (call (.builtin "list.append") [.ref r, v]) Q E s := by
  refine append_K F N (.head ho) (fun h' F' N' => h h' F' ?_) (by rw [List.size_toArray, sizeLine_eq]; omega)
  rw [List.push_toArray] at N'
  exact N'
section
variable {prog : Program} {w : World} {A : Around} {E : Value → Shared → Prop} {s : Shared} {env : Env} {h₀ : Heap} {x : Str} {body : List Stmt} {Q : Flow → Shared → Prop}
theorem for_bytes {b : Array UInt8} {tb : Tok} {m₀ : Str → Option Value} {news : List (Addr × Obj)} (J : Nat → (Str → Option Value) → List (Addr × Obj) → Prop)
    (hh : A.handled = none) (F : Fr h₀ env.locals s.heap m₀) (N : News h₀ env.locals s.heap news) (hj : J 0 m₀ news)
    (turn : ∀ i c t m₁ news₁ h tk own, b.toList[i]? = some c → news₁.map (·.1) = news.map (·.1) → OwnOff own (news.map (·.1)) → J i m₁ news₁ → Fr h₀ env.locals h (fun y => if y = x then some (.int ((c.toNat : Nat) : Int) t) else m₁ y) → News h₀ env.locals h (news₁ ++ own) →
      wpAny (model prog w) A (execs body env) (InvPostN h₀ env.locals (J (i + 1)) own (news.map (·.1)) { s with heap := h, toks := tk } Q) E { s with heap := h, toks := tk })
    (done : ∀ m₁ news₁ h tk, J b.toList.length m₁ news₁ → Fr h₀ env.locals h m₁ → News h₀ env.locals h news₁ → Q .next { s with heap := h, toks := tk }) :
    wpAny (model prog w) A (pyIter (.bytes b tb)) (fun it s₂ => LoopAtV prog w A h₀ env x body Q E it s₂) E s := by
  refine KBw.pyIter_bytes ?_
  have W := KBw.walks (prog := prog) (w := w) hh s.heap.objs.size b tb
  have hlen : b.toList.length = b.size := by simp
  rw [← hlen] at W
  refine loop_invN J W ?_ ?_ ?_ ?_ ⟨_, Heap.get?_push_size _ rfl, rfl, rfl⟩ (F.push _) (fun p hp => ⟨Heap.get?_push_of_some _ (N p hp).1, (N p hp).2⟩) hj ?_ ?_
  · intro hm
    exact absurd F.ns.lt ((List.mem_singleton.mp hm) ▸ Nat.lt_irrefl _)
  · intro b' hb
    rw [List.mem_singleton.mp hb]
    exact next_is_new F
  · intro p hp hI
    exact absurd (Heap.lt_size (N p hp).1) ((List.mem_singleton.mp hI) ▸ Nat.lt_irrefl _)
  · intro p hp hI
    exact absurd (Heap.lt_size (N p hp).1) ((List.mem_singleton.mp hI) ▸ Nat.lt_irrefl _)
  · rintro i v m₁ news₁ h tk own hi ⟨c, u, hc, rfl⟩
    exact turn i c u m₁ news₁ h tk own (by simpa using hc)
  · exact done
end
theorem invEnd1 {h₀ h' : Heap} {L r : Addr} {J : (Str → Option Value) → List (Addr × Obj) → Prop} {m' : Str → Option Value} {own : List (Addr × Obj)} {o : Obj} {s₁ : Shared} {tk : Nat} (F : Fr h₀ L h' m') (N : News h₀ L h' ((r, o) :: own)) (hj : J m' [(r, o)]) :
    InvEndN h₀ L J own [r] s₁ { s₁ with heap := h', toks := tk } :=
  ⟨h', tk, m', _, [(r, o)], rfl, F, N, (fun p hp => by rw [List.mem_singleton.mp hp]; exact .head _), (fun p hp => .tail _ hp), rfl, hj⟩
theorem isL {h₀ h : Heap} {L r : Addr} {ws : List Value} {n : Nat} {own : List (Addr × Obj)} (N : News h₀ L h ((r, listOf ws.toArray n) :: own)) : h.IsList r ws.toArray := ⟨_, N.get (.head _), rfl, n, rfl⟩

local macro_rules | `(tactic| walk_at "call builtin:list.append") => `(tactic| ((with_reducible show wpAny _ _ (call (Value.builtin "list.append") [Value.ref _, _]) _ _ _); (refine' app_first ?k1 ?k2 ?k3 ?k4 ?_; (case k1 => k_asm); (case k2 => k_asm); (case k3 => assumption); (case k4 => ((try simp only [List.length_append, List.length_cons, List.length_nil]); omega)); k_whole); intro h' F' N'; (try k_sweep)))
theorem once_spec {w : World} {mean : ExcName → Option Value} {mg mb : Str → Option Value} {s : Shared} {Q E : Value → Shared → Prop} {l : Addr} {vs : List Value} {ds : List D}
    (X : (hd.heap_39 w.params).In s.heap) (T : Tp mean mg mb s.heap) (hl : s.heap.IsList l vs.toArray) (hv : AllSees s.heap vs ds) (hz : ds.length ≤ 100)
    (h : ∀ h' tk r ws n, Kp s.heap h' → s.heap.get? r = none → h'.get? r = some (listOf ws.toArray n) → Sub vs ds ws (once ds) → Q (.ref r) { s with heap := h', toks := tk }) :
    wpAny (Md w) (lv 900 9000) (call (.ref 174) [.ref l]) Q E s := by
  w_on
  k_dflt (refine' enterP (binds := [(Str.ofString "things", .ref l)]) X T ?ho ?hcd ?hroom ?hb ?hl ?c1 ?c2 ?c3 ?c4 ?_; walk_at "m enter")
  intro L h₁ F N
  walk_at "m steps"
  rename_i r _ _ _ lF' lN'
  refine Halt.on (for_vals (fun i m nw => m (Str.ofString "kept") = some (.ref r) ∧ ∃ ws n, nw = [(r, listOf ws.toArray n)] ∧ Sub vs ds ws (once (ds.take i))) rfl hl lF' lN' ⟨rfl, [], 0, rfl, Sub.nil⟩ ?_ ?_)
  · clear lF' lN'
    rintro i v m₁ news₁ h' tk own hi _ hoff ⟨hk, ws, n, rfl, hw⟩ F₁ N₁
    replace F₁ := frKnow (Str.ofString "kept") F₁ (by rw [if_neg (by decide)]; exact hk)
    replace N₁ := newsFirst N₁
    obtain ⟨d, hdd, hsee⟩ := hv.get i v hi
    walk_at "m steps"
    refine count_sees ⟨_, N₁.get (.head _), rfl, n, rfl⟩ ((hw _ hv).kp F₁.keep) (hsee.kp F₁.keep) (Nat.le_of_ble_eq_true rfl) ?_
    walk_at "m steps"
    · rename_i hc tk'
      refine app_first F₁ N₁ (hoff.ne (.head _)) (by have := (hw _ hv).length; have := once_len (ds.take i); have := @List.length_take _ i ds; omega) ?_
      intro h2 F₂ N₂
      clear F₁ N₁
      walk_at "m steps"
      refine ⟨h2, _, _, _, [(r, listOf (ws ++ [v]).toArray (n + 1))], rfl, F₂, N₂, ?_, ?_, rfl, rfl, _, _, rfl, ?_⟩
      · intro p hp; rw [List.mem_singleton.mp hp]; exact .head _
      · intro p hp; exact .tail _ hp
      · rw [once_take hdd, if_neg (by rw [← List.count_eq_zero]; omega)]
        exact hw.snoc hi hdd
    · rename_i hc tk'
      refine ⟨h', _, _, _, [(r, listOf ws.toArray n)], rfl, F₁, N₁, ?_, ?_, rfl, rfl, _, _, rfl, ?_⟩
      · intro p hp; rw [List.mem_singleton.mp hp]; exact .head _
      · intro p hp; exact .tail _ hp
      · rw [once_take hdd, if_pos (by rw [← List.count_pos_iff]; omega)]
        exact hw
  · clear lF' lN'
    rintro m₁ news₁ h' tk ⟨hk, ws, n, rfl, hw⟩ F₁ N₁
    replace F₁ := frKnow (Str.ofString "kept") F₁ hk
    walk_at "m steps"
    dsimp only
    rw [hv.length, List.take_length] at hw
    exact h h' _ r ws n F₁.keep (N₁.fresh (.head _)) (N₁.get (.head _)) hw

theorem dedup_spec {w : World} {mean : ExcName → Option Value} {mg mb : Str → Option Value} {s : Shared} {Q E : Value → Shared → Prop} {l : Addr} {vs : List Value} {ds : List D} {ha : Option Value} {ex : List (Addr × Obj)} (hx : HandOk ha ex) (hex : ∀ p ∈ ex, s.heap.get? p.1 = some p.2)
    (X : (hd.heap_39 w.params).In s.heap) (T : Tp mean mg mb s.heap) (hl : s.heap.IsList l vs.toArray) (hv : AllSees s.heap vs ds) (hz : ds.length ≤ 100)
    (h : ∀ h' tk r ws n, Kp s.heap h' → s.heap.get? r = none → h'.get? r = some (listOf ws.toArray n) → Sub vs ds ws (once ds) → Q (.ref r) { s with heap := h', toks := tk }) :
    wpAny (Md w) (lvx ha 900 9000) (call (.ref 36) [.ref l]) Q E s := by
  w_on
  k_dflt (refine' enterP (binds := [(Str.ofString "unhashable_params", .ref l)]) X T ?ho ?hcd ?hroom ?hb ?hl ?c1 ?c2 ?c3 ?c4 ?_; walk_at "m enter")
  intro L h₁ F N
  walk_at "m steps"
  rename_i r _ _ _ lF' lN'
  refine Halt.on (for_valsH (fun i m nw => m (Str.ofString "new_unhashable") = some (.ref r) ∧ ∃ ws n, nw = [(r, listOf ws.toArray n)] ∧ Sub vs ds ws (once (ds.take i))) hx rfl hex hl lF' lN' ⟨rfl, [], 0, rfl, Sub.nil⟩ ?_ ?_)
  · clear lF' lN'
    rintro i v m₁ news₁ h' tk own hi _ hoff ⟨hk, ws, n, rfl, hw⟩ F₁ N₁
    replace F₁ := frKnow (Str.ofString "new_unhashable") F₁ (by rw [if_neg (by decide)]; exact hk)
    replace N₁ := newsFirst N₁
    obtain ⟨d, hdd, hsee⟩ := hv.get i v hi
    walk_at "m steps"
    refine notIn_sees ⟨_, N₁.get (.head _), rfl, n, rfl⟩ ((hw _ hv).kp F₁.keep) (hsee.kp F₁.keep) (Nat.le_of_ble_eq_true rfl) ?_
    walk_at "m steps"
    · rename_i hc
      refine ⟨h', _, _, _, [(r, listOf ws.toArray n)], rfl, F₁, N₁, ?_, ?_, rfl, rfl, _, _, rfl, ?_⟩
      · intro p hp; rw [List.mem_singleton.mp hp]; exact .head _
      · intro p hp; exact .tail _ hp
      · rw [once_take hdd, if_pos hc]
        exact hw
    · rename_i hc
      refine app_first F₁ N₁ (hoff.ne (.head _)) (by have := (hw _ hv).length; have := once_len (ds.take i); have := @List.length_take _ i ds; omega) ?_
      intro h2 F₂ N₂
      clear F₁ N₁
      walk_at "m steps"
      refine ⟨h2, _, _, _, [(r, listOf (ws ++ [v]).toArray (n + 1))], rfl, F₂, N₂, ?_, ?_, rfl, rfl, _, _, rfl, ?_⟩
      · intro p hp; rw [List.mem_singleton.mp hp]; exact .head _
      · intro p hp; exact .tail _ hp
      · rw [once_take hdd, if_neg hc]
        exact hw.snoc hi hdd
  · clear lF' lN'
    rintro m₁ news₁ h' tk ⟨hk, ws, n, rfl, hw⟩ F₁ N₁
    replace F₁ := frKnow (Str.ofString "new_unhashable") F₁ hk
    walk_at "m steps"
    dsimp only
    rw [hv.length, List.take_length] at hw
    exact h h' _ r ws n F₁.keep (N₁.fresh (.head _)) (N₁.get (.head _)) hw

open MeetsSeq in
theorem remove_loopAt {prog : Program} {w : World} {A : Around} {s : Shared} {R : Result → Shared → Prop} (l : Addr) (items : Array Value) (n : Nat) (x : Value) (e : Value → Bool) (he : ∀ y, y ∈ items → PySem.SeqAt.EqAt A.in1 s y x (e y))
    (hl : s.heap.get? l = some (listOf items n)) (hs1 : items.size ≤ sizeLine) (k : Nat) :
    ∀ i : Nat, items.size - i = k →
      (∀ j (hj : j < items.size), i ≤ j → e items[j] = true → (∀ m (hm : m < items.size), i ≤ m → m < j → e items[m] = false) → R (.ok (.ret .none)) { s with heap := s.heap.update l (Obj.mapSeq fun xs => xs.eraseIdxIfInBounds j) }) →
      ((∀ m (hm : m < items.size), i ≤ m → e items[m] = false) → raisesNew "ValueError" A R s) →
      wpAny (model prog w) A.in1 (Builtin.«list.remove.loop» ⟨[.ref l, x, rawInt i], []⟩) (fun fin s' => match fin with | .done f => R (.ok f) s' | .again c' => c'.quiet = true ∧ codeAny (model prog w) A c' R s') (fun e s' => R (.error e) s') s := by
  induction k with
  | zero =>
    intro i hk hit miss
    have h := miss fun m hm hi => by omega
    obtain ⟨hp, g, d, tk, os⟩ := s
    wp_walk using AutoSeq1.wpAny_loadPart' hl
    have hi : items[((i : Nat) : Int).toNat]? = none := by simp; omega
    rw [hi]
    wp_walk
    exact_raiseError plainExc_ValueError h.1 h.2
  | succ k ih =>
    intro i hk hit miss
    have hlt : i < items.size := by omega
    have hi : items[((i : Nat) : Int).toNat]? = some items[i] := by simp [hlt]
    have hc : ((i : Int) + 1) = ((i + 1 : Nat) : Int) := by push_cast; rfl
    have he' := he _ (Array.getElem_mem hlt)
    cases hb : e items[i] with
    | true =>
      rw [hb] at he'
      have h := hit i hlt (Nat.le_refl _) hb fun m hm h1 h2 => by omega
      obtain ⟨hp, g, d, tk, os⟩ := s
      wp_walk using AutoSeq1.wpAny_loadPart' hl
      rw [hi]
      refine wpAny_bind (he' prog w _ _ ?_)
      have hz' : (items.eraseIdxIfInBounds i).size ≤ sizeLine + 1 := Nat.le_trans (size_erased items _) (Nat.le_succ_of_le hs1)
      wp_walk using (wpAny_updateSeq hl rfl (hz := hs1) (_hz' := hz')), AutoSeq1.wpAny_loadPart' hl
      simpa using h
    | false =>
      rw [hb] at he'
      have ih' := ih (i + 1) (by omega) (fun j hj h1 h2 h3 => hit j hj (by omega) h2 fun m hm a b => by
          by_cases q : m = i
          · subst q; exact hb
          · exact h3 m hm (by omega) b) (fun h => miss fun m hm a => by
          by_cases q : m = i
          · subst q; exact hb
          · exact h m hm (by omega))
      obtain ⟨hp, g, d, tk, os⟩ := s
      wp_walk using AutoSeq1.wpAny_loadPart' hl
      rw [hi]
      refine wpAny_bind (he' prog w _ _ ?_)
      wp_walk
      rw [hc]
      exact ⟨plainId_quiet plain_remove_loop _, codeAny_builtin entry_remove_loop (by
        rw [Around.under_plainId plain_remove_loop _]
        exact ih')⟩
theorem AllSees.erase {h : Heap} {d : D} : ∀ {vs : List Value} {ds : List D}, AllSees h vs ds → ∀ (j : Nat) (hj : j < vs.length), isD h d vs[j] = true → (∀ m (hm : m < vs.length), m < j → isD h d vs[m] = false) → AllSees h (vs.eraseIdx j) (ds.erase d)
  | _, _, .nil, j, hj, _, _ => by simp at hj
  | _, _, .cons (d := e) x r, 0, hj, h1, _ => by
    simp only [List.getElem_cons_zero] at h1
    rw [isD_eq x] at h1
    have : e = d := by simpa using h1
    subst this
    simpa using r
  | _, _, .cons (d := e) x r, j + 1, hj, h1, h2 => by
    have h0 := h2 0 (by simp) (by omega)
    simp only [List.getElem_cons_zero] at h0
    rw [isD_eq x] at h0
    have hne : ¬ e = d := by simpa using h0
    rw [List.eraseIdx_cons_succ, List.erase_cons_tail (by simpa using hne)]
    refine .cons x (AllSees.erase r j (by simpa using hj) (by simpa using h1) fun m hm hlt => ?_)
    exact h2 (m + 1) (by simpa using hm) (by omega)
theorem AllSees.none_mem {h : Heap} {d : D} {vs : List Value} {ds : List D} (x : AllSees h vs ds) (hn : ∀ m (hm : m < vs.length), isD h d vs[m] = false) : d ∉ ds := by
  intro hd
  have := x.any (d := d)
  rw [decide_eq_true hd, List.any_eq_true] at this
  obtain ⟨v, hv, hi⟩ := this
  obtain ⟨m, hm, rfl⟩ := List.getElem_of_mem hv
  rw [hn m hm] at hi; cases hi
theorem AllSees.some_mem {h : Heap} {d : D} {vs : List Value} {ds : List D} (x : AllSees h vs ds) (j : Nat) (hj : j < vs.length) (hi : isD h d vs[j] = true) : d ∈ ds := by
  have := x.any (d := d)
  have h2 : vs.any (isD h d) = true := List.any_eq_true.mpr ⟨_, List.getElem_mem hj, hi⟩
  rw [h2] at this
  exact of_decide_eq_true this.symm
theorem remove_K {prog : Program} {w : World} {A : Around} {E : Value → Shared → Prop} {s : Shared} {h₀ : Heap} {L t : Addr} {m : Str → Option Value} {ws : List Value} {n : Nat} {x : Value} {d : D} {ds : List D} {rest : List (Addr × Obj)} {Q : Value → Shared → Prop}
    (hh : A.handled = none) (hu : A.units + 65 < cLine) (F : Fr h₀ L s.heap m) (N : News h₀ L s.heap ((t, listOf ws.toArray n) :: rest)) (ho : ∀ p ∈ rest, p.1 ≠ t) (hz : ws.length ≤ 10000) (hv : AllSees h₀ ws ds) (hx : Sees h₀ x d)
    (found : d ∈ ds → ∀ h' ws', Fr h₀ L h' m → News h₀ L h' ((t, listOf ws'.toArray (n + 1)) :: rest) → AllSees h₀ ws' (ds.erase d) → Q .none { s with heap := h' })
    (miss : d ∉ ds → ∀ h' tk e, Heap.NewExc s.heap h' e "ValueError" → E (.ref e) { s with heap := h', toks := tk }) :
    wpAny (model prog w) A (call (.builtin "list.remove") [.ref t, x]) Q E s := by
  have hl : s.heap.get? t = some (listOf ws.toArray n) := N.get (.head _)
  have hv' := hv.kp F.keep
  have hx' := hx.kp F.keep
  refine call_b PySem.F.slot_list_remove (isList_typeIs hl rfl) PySem.F.entry_list_remove (PySem.F.args_list_remove_2 _ _) ?_
  have key := remove_loopAt (prog := prog) (w := w) (R := wants Q E) t ws.toArray n x (isD s.heap d) (eqAt_all (A := A.in1) hv' hx' (by show A.units + 1 + 64 < cLine; omega)) hl (by rw [List.size_toArray, sizeLine_eq]; omega) _ 0 rfl
    (fun j hj _ h1 h2 => by
      have hj' : j < ws.length := by simpa using hj
      have h1' : isD s.heap d ws[j] = true := by simpa using h1
      have hmem := hv'.some_mem j hj' h1'
      have he0 : AllSees h₀ (ws.eraseIdx j) (ds.erase d) := by
        have conv : ∀ (v : Value), v ∈ ws → isD h₀ d v = isD s.heap d v := fun v hvm => by
          obtain ⟨e, _, hs⟩ := hv.mem v hvm
          rw [isD_eq hs, isD_eq (hs.kp F.keep)]
        refine hv.erase j hj' ((conv _ (List.getElem_mem hj')).trans h1') fun k hk hlt => ?_
        rw [conv _ (List.getElem_mem hk)]
        have := h2 k (by simpa using hk) (Nat.zero_le _) hlt
        simpa using this
      have hupd := news_upd (pre := []) (post := rest) (o := listOf ws.toArray n) (o' := listOf (ws.eraseIdx j).toArray (n + 1)) (f := Obj.mapSeq fun xs => xs.eraseIdxIfInBounds j) F N (fun _ hp => nomatch hp) ho (by
        show (⟨_, _, .seq (ws.toArray.eraseIdxIfInBounds j) (if (ws.toArray.eraseIdxIfInBounds j).size == ws.toArray.size then n else n + 1), _⟩ : Obj) = _
        have e1 : ws.toArray.eraseIdxIfInBounds j = (ws.eraseIdx j).toArray := by
          rw [Array.eraseIdxIfInBounds, dif_pos (by simpa using hj')]
          simp
        have e2 : ((ws.eraseIdx j).toArray.size == ws.toArray.size) = false := by
          have := List.length_eraseIdx_of_lt hj'
          simp [this]; omega
        rw [e1, e2]; rfl) rfl
      exact found hmem _ _ hupd.1 hupd.2 he0)
    (fun h => ⟨hh, fun h' tk e hx => miss (hv'.none_mem fun m hm => h m (by simpa using hm) (Nat.zero_le _)) h' tk e hx⟩)
  obtain ⟨hp, g, dd, tk, os⟩ := s
  wp_walk using AutoSeq1.wpAny_loadPart' hl
  exact ⟨plainId_quiet MeetsSeq.plain_remove_loop _, codeAny_builtin MeetsSeq.entry_remove_loop (by
    rw [Around.under_plainId MeetsSeq.plain_remove_loop _]
    exact key)⟩

noncomputable def sameSet (a b : List D) : Bool := a.all (fun d => decide (d ∈ b)) && b.all (fun d => decide (d ∈ a))
theorem once_mem (ds : List D) (d : D) : d ∈ once ds ↔ d ∈ ds := by
  have : ∀ (l k : List D), d ∈ l.foldl (fun k d => if d ∈ k then k else k ++ [d]) k ↔ d ∈ k ∨ d ∈ l := by
    intro l
    induction l with
    | nil => intro k; simp
    | cons a l ih =>
      intro k
      rw [List.foldl_cons, ih]
      split
      · rename_i h
        constructor
        · rintro (q | q)
          · exact .inl q
          · exact .inr (List.mem_cons_of_mem _ q)
        · rintro (q | q)
          · exact .inl q
          · rcases List.mem_cons.mp q with rfl | q
            · exact .inl h
            · exact .inr q
      · simp only [List.mem_append, List.mem_cons, List.not_mem_nil, or_false]
        constructor
        · rintro ((q | q) | q)
          · exact .inl q
          · exact .inr (.inl q)
          · exact .inr (.inr q)
        · rintro (q | q | q)
          · exact .inl (.inl q)
          · exact .inl (.inr q)
          · exact .inr q
  simpa [once] using this ds []
theorem once_nodup (ds : List D) : (once ds).Nodup := by
  have : ∀ (l k : List D), k.Nodup → (l.foldl (fun k d => if d ∈ k then k else k ++ [d]) k).Nodup := by
    intro l
    induction l with
    | nil => intro k h; exact h
    | cons a l ih =>
      intro k h
      rw [List.foldl_cons]
      refine ih _ ?_
      split
      · exact h
      · rename_i hn
        rw [List.nodup_append]
        refine ⟨h, by simp, ?_⟩
        intro x hx y hy e
        simp at hy
        subst hy
        subst e
        exact hn hx
  exact this ds [] (by simp)
theorem sameSet_iff (a b : List D) : sameSet a b = true ↔ ∀ d, d ∈ a ↔ d ∈ b := by
  unfold sameSet
  simp only [Bool.and_eq_true, List.all_eq_true, decide_eq_true_eq]
  exact ⟨fun h d => ⟨h.1 d, h.2 d⟩, fun h => ⟨fun d => (h d).1, fun d => (h d).2⟩⟩
/-- what is left of b when the first i of a are struck out -/
noncomputable def left (a b : List D) (i : Nat) : List D := (a.take i).foldl List.erase b
theorem left_succ {a b : List D} {i : Nat} {d : D} (h : a[i]? = some d) : left a b (i + 1) = (left a b i).erase d := by
  unfold left
  rw [take_snoc h, List.foldl_append]
  rfl
theorem left_nodup {a b : List D} (hb : b.Nodup) (i : Nat) : (left a b i).Nodup := by
  unfold left
  generalize a.take i = l
  induction l generalizing b with
  | nil => exact hb
  | cons x l ih => rw [List.foldl_cons]; exact ih (hb.erase _)
theorem left_mem {a b : List D} (hb : b.Nodup) (i : Nat) (d : D) : d ∈ left a b i ↔ d ∈ b ∧ d ∉ a.take i := by
  unfold left
  generalize a.take i = l
  induction l generalizing b with
  | nil => simp
  | cons x l ih =>
    rw [List.foldl_cons, ih (hb.erase _), hb.mem_erase_iff]
    simp only [List.mem_cons, not_or]
    constructor
    · rintro ⟨⟨h1, h2⟩, h3⟩; exact ⟨h2, h1, h3⟩
    · rintro ⟨h2, h1, h3⟩; exact ⟨⟨h1, h2⟩, h3⟩
theorem miss_false {a b : List D} {i : Nat} {d : D} (hd : (once a)[i]? = some d) (hn : d ∉ left (once a) (once b) i) : sameSet a b = false := by
  cases hs : sameSet a b with
  | false => rfl
  | true =>
    exfalso
    have h := (sameSet_iff a b).mp hs
    refine hn ((left_mem (once_nodup b) i d).mpr ⟨?_, ?_⟩)
    · rw [once_mem, ← h, ← once_mem]; exact List.mem_of_getElem? hd
    · intro hm
      have hnd := once_nodup a
      obtain ⟨j, hj, e⟩ := List.getElem_of_mem hm
      rw [List.getElem_take] at e
      have hj' : j < i := by rw [List.length_take] at hj; omega
      obtain ⟨hi, e2⟩ := List.getElem?_eq_some_iff.mp hd
      exact (List.pairwise_iff_getElem.mp hnd) j i (by omega) hi hj' (e.trans e2.symm)
theorem end_same {a b : List D} (hall : ∀ d ∈ once a, d ∈ once b) : (left (once a) (once b) (once a).length = []) ↔ sameSet a b = true := by
  rw [sameSet_iff]
  constructor
  · intro h d
    constructor
    · intro hd; rw [← once_mem]; exact hall d ((once_mem a d).mpr hd)
    · intro hd
      by_cases q : d ∈ a
      · exact q
      · exfalso
        have := (left_mem (a := once a) (once_nodup b) (once a).length d).mpr ⟨(once_mem b d).mpr hd, by rw [List.take_length, once_mem]; exact q⟩
        rw [h] at this; cases this
  · intro h
    apply List.eq_nil_iff_forall_not_mem.mpr
    intro d hd
    obtain ⟨h1, h2⟩ := (left_mem (once_nodup b) _ d).mp hd
    rw [List.take_length, once_mem] at h2
    rw [once_mem] at h1
    exact h2 ((h d).mpr h1)
theorem left_len (a b : List D) (i : Nat) : (left a b i).length ≤ b.length := by
  unfold left
  generalize a.take i = l
  induction l generalizing b with
  | nil => exact Nat.le_refl _
  | cons x l ih => rw [List.foldl_cons]; exact Nat.le_trans (ih _) (List.length_erase_le)
theorem left_all {a b : List D} {i : Nat} {d : D} (hd : (once a)[i]? = some d) (hin : d ∈ left (once a) (once b) i) (hall : ∀ d ∈ (once a).take i, d ∈ once b) : ∀ d ∈ (once a).take (i + 1), d ∈ once b := by
  intro e he
  rw [take_snoc hd, List.mem_append] at he
  rcases he with he | he
  · exact hall e he
  · rw [List.mem_singleton.mp he]; exact ((left_mem (once_nodup b) i d).mp hin).1
theorem kpf_of {h₀ h h' : Heap} {L : Addr} {m : Str → Option Value} {frs frs' new : List (Addr × Obj)} (hg : h₀ = TI.gone h (frs.map (·.1))) (F : Fr h₀ L h' m) (N : News h₀ L h' (new ++ frs')) (SU : TI.SameUp frs frs') : KpF frs h h' :=
  ⟨fun b o hb e => F.keep b o (by rw [hg, TI.gone_get hb]; exact e), frs', SU, fun p hp => (N p (List.mem_append_right _ hp)).1⟩

open TI in
theorem cmp_spec {w : World} {mean : ExcName → Option Value} {mg mb : Str → Option Value} {s : Shared} {Q E : Value → Shared → Prop} {l1 l2 : Addr} {vs1 vs2 : List Value} {ds1 ds2 : List D} {l : List Env} {frs : List (Addr × Obj)}
    (Fs : Frs l frs) (hfr : ∀ p ∈ frs, s.heap.get? p.1 = some p.2)
    (X : (hd.heap_39 w.params).In (gone s.heap (frs.map (·.1)))) (T : Tp mean mg mb (gone s.heap (frs.map (·.1))))
    (hl1 : (gone s.heap (frs.map (·.1))).IsList l1 vs1.toArray) (hv1 : AllSees (gone s.heap (frs.map (·.1))) vs1 ds1) (hz1 : ds1.length ≤ 100)
    (hl2 : (gone s.heap (frs.map (·.1))).IsList l2 vs2.toArray) (hv2 : AllSees (gone s.heap (frs.map (·.1))) vs2 ds2) (hz2 : ds2.length ≤ 100)
    (h : ∀ h' tk, KpF frs s.heap h' → Q (.bool (sameSet ds1 ds2)) { s with heap := h', toks := tk }) :
    wpAny (Md w) (lvf l 800 8000) (call (.ref 43) [.ref l1, .ref l2]) Q E s := by
  w_on
  k_dflt (refine' enterF (binds := [(Str.ofString "first_args", .ref l1), (Str.ofString "second_args", .ref l2)]) X T hfr ?ho ?hcd ?hroom ?hb ?hl ?c1 ?c2 ?c3 ?c4 ?_; walk_at "m enter")
  intro L h₁ F N
  walk_at "m steps"
  refine Halt.on (lowerx (dedup_spec (ha := none) (ex := []) (.inl ⟨rfl, rfl⟩) (fun _ hp => nomatch hp) (X.keeps F.keep) (T.keeps F.keep) (hl1.at fun o e => F.keep _ o e) (hv1.kp F.keep) hz1 ?_) rfl (Nat.le_of_ble_eq_true rfl) (Nat.le_of_ble_eq_true rfl))
  intro h2 tk2 r1 ws1 n1 k2 hr2 ho2 hs1
  obtain ⟨F2, N2⟩ := addNew F N k2 hr2 ho2
  have a1 := newsLt N hr2
  clear F N k2
  walk_at "m steps"
  rename Fr _ _ _ _ => F3
  rename News _ _ _ _ => N3
  refine Halt.on (lowerx (dedup_spec (ha := none) (ex := []) (.inl ⟨rfl, rfl⟩) (fun _ hp => nomatch hp) (X.keeps F3.keep) (T.keeps F3.keep) (hl2.at fun o e => F3.keep _ o e) (hv2.kp F3.keep) hz2 ?_) rfl (Nat.le_of_ble_eq_true rfl) (Nat.le_of_ble_eq_true rfl))
  intro h4 tk4 r2 ws2 n2 k4 hr4 ho4 hs2
  obtain ⟨F4, N4⟩ := addNew F3 N3 k4 hr4 ho4
  have a2 := newsLt N3 hr4
  clear F3 N3 k4
  walk_at "m steps"
  rename Fr _ _ _ _ => F5
  rename News _ _ _ _ => N5
  have q1 := (hs1 _ hv1)
  have q2 := (hs2 _ hv2)
  refine list_copyK F5 N5 ⟨_, N5.get (.head _), rfl, n2, rfl⟩ ?_ (by rw [List.size_toArray, sizeLine_eq]; have := q2.length; have := once_len ds2; omega)
  intro t c h6 F6 N6 lt
  have a3 : ∀ p ∈ ((r2, listOf ws2.toArray n2) :: (r1, listOf ws1.toArray n1) :: frs), p.1 ≠ t := fun p hp => Nat.ne_of_lt (lt p hp)
  clear F5 N5 lt
  walk_at "m steps"
  rename Fr _ _ _ _ => F7
  rename News _ _ _ _ => N7
  have hlen1 : ws1.length = (once ds1).length := q1.length
  refine Halt.on (kdl_iter (l := r1) (vs := ws1) (nn := n1) (fun i m nw => m (Str.ofString "t") = some (.ref t) ∧ (∀ d ∈ (once ds1).take i, d ∈ once ds2) ∧ ∃ ws n, nw = (t, listOf ws.toArray n) :: (r2, listOf ws2.toArray n2) :: (r1, listOf ws1.toArray n1) :: frs ∧ AllSees (gone s.heap (frs.map (·.1))) ws (left (once ds1) (once ds2) i))
    rfl (.tail _ (.tail _ (.head _))) F7 N7 ⟨rfl, (by simp), _, _, rfl, q2⟩ ?_ ?_)
  · clear F7 N7
    rintro i v m₁ news₁ h8 tk8 own hi hoff _ ⟨hk, hall, ws, n, rfl, hw⟩ F₁ N₁
    replace F₁ := frKnow (Str.ofString "t") F₁ (by rw [if_neg (by decide)]; exact hk)
    obtain ⟨d, hdd, hsee⟩ := q1.get i v hi
    have hoff' : ∀ p ∈ ((r2, listOf ws2.toArray n2) :: (r1, listOf ws1.toArray n1) :: frs) ++ own, p.1 ≠ t := by
      intro p hp
      rcases List.mem_append.mp hp with hp | hp
      · exact a3 p hp
      · exact hoff p hp t (.head _)
    walk_at "m steps"
    refine remove_K rfl (Nat.le_of_ble_eq_true rfl) F₁ N₁ hoff' (by have := hw.length; have := left_len (once ds1) (once ds2) i; have := once_len ds2; omega) hw hsee ?_ ?_
    · intro hin h9 ws9 F9 N9 hw9
      clear F₁ N₁
      walk_at "m steps"
      refine ⟨h9, _, _, _, (t, listOf ws9.toArray (n + 1)) :: (r2, listOf ws2.toArray n2) :: (r1, listOf ws1.toArray n1) :: frs, rfl, F9, N9, fun p hp => ?_, fun p hp => ?_, hoff, .tail _ (.tail _ (.head _)), rfl, left_all hdd hin hall, ws9, n + 1, rfl, ?_⟩
      · exact List.mem_append_left own hp
      · exact List.mem_append_right ((t, listOf ws9.toArray (n + 1)) :: (r2, listOf ws2.toArray n2) :: (r1, listOf ws1.toArray n1) :: frs) hp
      · rw [left_succ hdd]; exact hw9
    · intro hnin h9 tk9 e9 hx9
      have N₂ : News (gone s.heap (frs.map (·.1))) L h8 ([(t, listOf ws.toArray n), (r2, listOf ws2.toArray n2), (r1, listOf ws1.toArray n1)] ++ frs) := fun p hp => N₁ p (List.mem_append_left own hp)
      refine TLg.noted_newA (new := [(t, listOf ws.toArray n), (r2, listOf ws2.toArray n2), (r1, listOf ws1.toArray n1)]) (l := l) (frs := frs) rfl Fs hx9 F₁ N₂ ?_ (fun h10 frs' SU Fs' H => ?_)
      · intro p hp hm
        rcases List.mem_cons.mp hm with e | hm
        · exact (N₂ p (List.mem_append_left _ hp)).2.1 e
        · obtain ⟨q, hq, e⟩ := List.mem_map.mp hm
          rcases List.mem_cons.mp hp with rfl | hp
          · exact a3 q (.tail _ (.tail _ hq)) e
          · rcases List.mem_cons.mp hp with rfl | hp
            · exact a2 q (.tail _ hq) e
            · rw [List.mem_singleton.mp hp] at e
              exact a1 q hq e
      · refine H.land fun h11 H2 => ?_
        clear F₁ N₁ N₂
        refine TT.clause_hitTN H2 T (k := fun h12 F12 N12 => ?_)
        walk_at "m steps"
        try dsimp only
        have hs := miss_false hdd hnin
        rw [← hs]
        exact h _ _ (kpf_of rfl F12 N12 SU)
  · clear F7 N7
    rintro m₁ news₁ h8 tk8 ⟨hk, hall, ws, n, rfl, hw⟩ F₁ N₁
    replace F₁ := frKnow (Str.ofString "t") F₁ hk
    walk_at "m steps"
    rw [hlen1] at hw
    have hz : ws.length ≤ 100 := by have := hw.length; have := left_len (once ds1) (once ds2) (once ds1).length; have := once_len ds2; omega
    refine wpAny_truthy_list ⟨_, N₁.get (.head _), rfl, n, rfl⟩ ?_ ?_
    · have e : ws.toArray.size = ws.length := by simp
      rw [e]; omega
    · walk_at "m steps"
      try dsimp only
      have e1 : (!!ws.toArray.isEmpty) = sameSet ds1 ds2 := by
        have e2 := end_same (a := ds1) (b := ds2) (by rw [hlen1, List.take_length] at hall; exact hall)
        rw [Bool.not_not, Bool.eq_iff_iff, ← e2]
        have e3 := hw.length
        have e4 : ws.toArray.isEmpty = true ↔ ws.length = 0 := by simp [Array.isEmpty]
        rw [e4, ← List.length_eq_zero_iff, e3]
      rw [e1]
      exact h _ _ (kpf_of (new := [(t, listOf ws.toArray n), (r2, listOf ws2.toArray n2), (r1, listOf ws1.toArray n1)]) rfl F₁ N₁ (SameUp.refl _))

noncomputable def B64L : List UInt8 := [65, 66, 67, 68, 69, 70, 71, 72, 73, 74, 75, 76, 77, 78, 79, 80, 81, 82, 83, 84, 85, 86, 87, 88, 89, 90, 97, 98, 99, 100, 101, 102, 103, 104, 105, 106, 107, 108, 109, 110, 111, 112, 113, 114, 115, 116, 117, 118, 119, 120, 121, 122, 48, 49, 50, 51, 52, 53, 54, 55, 56, 57, 43, 47]
noncomputable def b64at (i : Int) : Int := ((B64L.getD i.toNat 0).toNat : Int)
theorem b64at_range (i : Int) : 0 ≤ b64at i ∧ b64at i < 256 := by
  unfold b64at
  have := (B64L.getD i.toNat 0).toNat_lt
  omega
theorem b64_item {prog : Program} {w : World} {A : Around} {E : Value → Shared → Prop} {s : Shared} {i : Int} {t ui : Tok} {value slice : Expr} {Q : Value → Shared → Prop} (h0 : 0 ≤ i) (h1 : i < 64)
    (h : Q (.int (b64at i) s.toks) { s with toks := s.toks + 1 })
    (hs : subscripted slice false (.bytes B64L.toArray t) (.int i ui) = operate [.bytes B64L.toArray t, .int i ui] (getItem (.bytes B64L.toArray t) (.int i ui)))
    (ht : ∀ r, letTemporaryGo value (.bytes B64L.toArray t) r = pure ()) : wpAny (model prog w) A (subscriptTail value slice (.bytes B64L.toArray t) (.int i ui)) Q E s :=
  bytes_item_K (by decide) h0 (by show i < 64; exact h1) rfl h hs ht
/-- one octet more: the bits at hand, how many are left, the signs written -/
noncomputable def b2aStep (st : Int × Int × List Int) (c : Int) : Int × Int × List Int :=
  let lc := Builtin.bitAnd (Builtin.bitOr (st.1 * 2 ^ Int.toNat 8) c) 65535
  if st.2.1 = 0 then (lc, 2, st.2.2 ++ [b64at (Builtin.bitAnd (lc.fdiv (2 ^ (2 : Nat))) 63)])
  else if st.2.1 = 2 then (lc, 4, st.2.2 ++ [b64at (Builtin.bitAnd (lc.fdiv (2 ^ (4 : Nat))) 63)])
  else (lc, 0, st.2.2 ++ [b64at (Builtin.bitAnd (lc.fdiv (2 ^ (6 : Nat))) 63)] ++ [b64at (Builtin.bitAnd (lc.fdiv (2 ^ (0 : Nat))) 63)])
noncomputable def b2aEnd (st : Int × Int × List Int) : List Int :=
  if st.2.1 = 2 then st.2.2 ++ [b64at (Builtin.bitAnd st.1 3 * 2 ^ (4 : Nat))] ++ [61] ++ [61]
  else if st.2.1 = 4 then st.2.2 ++ [b64at (Builtin.bitAnd st.1 15 * 2 ^ (2 : Nat))] ++ [61]
  else st.2.2
noncomputable def b2aFold (l : List Int) : Int × Int × List Int := l.foldl b2aStep (0, 0, [])
noncomputable def b2a (l : List Int) : List Int := b2aEnd (b2aFold l)
theorem b2aFold_take {l : List Int} {i : Nat} {c : Int} (h : l[i]? = some c) : b2aFold (l.take (i + 1)) = b2aStep (b2aFold (l.take i)) c := by
  unfold b2aFold
  rw [take_snoc h, List.foldl_append]
  rfl
theorem intsSnoc {vs : List Value} {ns : List Int} {v : Int} {t : Tok} (h : IntsAre vs ns) : IntsAre (vs ++ [.int v t]) (ns ++ [v]) := by
  induction h with
  | nil => exact .cons _ _ .nil
  | cons a u _ ih => exact .cons a u ih

def Octets (l : List Int) : Prop := ∀ n ∈ l, 0 ≤ n ∧ n < 256
theorem Octets.snoc {l : List Int} {a : Int} (h : Octets l) (ha : 0 ≤ a ∧ a < 256) : Octets (l ++ [a]) := fun n hn => by
  rcases List.mem_append.mp hn with hn | hn
  · exact h n hn
  · rw [List.mem_singleton.mp hn]; exact ha
theorem b2aStep_octets {st : Int × Int × List Int} {c : Int} (h : Octets st.2.2) : Octets (b2aStep st c).2.2 := by
  unfold b2aStep
  dsimp only
  split
  · exact h.snoc (b64at_range _)
  · split
    · exact h.snoc (b64at_range _)
    · exact (h.snoc (b64at_range _)).snoc (b64at_range _)
theorem b2aFold_octets (l : List Int) : Octets (b2aFold l).2.2 := by
  have : ∀ (l : List Int) (st : Int × Int × List Int), Octets st.2.2 → Octets (l.foldl b2aStep st).2.2 := by
    intro l
    induction l with
    | nil => intro st h; exact h
    | cons a l ih => intro st h; exact ih _ (b2aStep_octets h)
  exact this l _ (fun _ hn => nomatch hn)

inductive B2aJ (r : Addr) (b : Array UInt8) (i : Nat) (m : Str → Option Value) (nw : List (Addr × Obj)) : Prop
  | mk (lc lb : Int) (t1 t2 : Tok) (out : List Int) (ws : List Value) (n : Nat) (e1 : m (Str.ofString "leftchar") = some (.int lc t1)) (e2 : m (Str.ofString "leftbits") = some (.int lb t2)) (e3 : m (Str.ofString "out") = some (.ref r)) (e4 : m (Str.ofString "newline") = some (.bool false)) (hn : nw = [(r, listOf ws.toArray n)]) (hw : IntsAre ws out) (hst : (lc, lb, out) = b2aFold ((KBw.bInts b).take i)) (hl : lb = 0 ∨ lb = 2 ∨ lb = 4) (g1 : 0 ≤ lc) (g2 : lc < 65536) (ho : out.length ≤ 2 * i) : B2aJ r b i m nw
theorem b2a_spec {w : World} {mean : ExcName → Option Value} {mg mb : Str → Option Value} {s : Shared} {Q E : Value → Shared → Prop} {b : Array UInt8} {t : Tok}
    (X : (hd.heap_39 w.params).In s.heap) (T : Tp mean mg mb s.heap) (hz : b.size ≤ 3)
    (h : ∀ h' tk t', Kp s.heap h' → Q (.bytes (byteArr (b2a (KBw.bInts b))) t') { s with heap := h', toks := tk }) :
    wpAny (Md w) (lv 890 8900) (call (.ref 108) [.bytes b t] [(Str.ofString "newline", .bool false)]) Q E s := by
  w_on
  k_dflt (refine' enterP (binds := [(Str.ofString "data", .bytes b t), (Str.ofString "newline", .bool false)]) X T ?ho ?hcd ?hroom ?hb ?hl ?c1 ?c2 ?c3 ?c4 ?_; walk_at "m enter")
  intro L h₁ F N
  walk_at "m steps"
  refine Halt.on (lower (buffer_spec (X.keeps F.keep) (T.keeps F.keep) ?_) rfl (Nat.le_of_ble_eq_true rfl) (Nat.le_of_ble_eq_true rfl))
  intro h2 tk2 k2
  replace F := F.keeps k2
  replace N := N.grown k2
  walk_at "m steps"
  rename Fr _ _ _ _ => F2
  rename News _ _ _ _ => N2
  refine Halt.on (lower (truth_spec (X.keeps F2.keep) (T.keeps F2.keep) ?_) rfl (Nat.le_of_ble_eq_true rfl) (Nat.le_of_ble_eq_true rfl))
  intro h3 tk3 k3
  replace F2 := F2.keeps k3
  replace N2 := N2.grown k3
  walk_at "m steps"
  rename Fr _ _ _ _ => F3
  rename News _ _ _ _ => N3
  rename_i r _ _ _ _ _
  refine Halt.on (for_bytes (B2aJ r b)
    rfl F3 N3 ⟨0, 0, _, _, [], [], 0, rfl, rfl, rfl, rfl, rfl, .nil, rfl, .inl rfl, by decide, by decide, by decide⟩ ?_ ?_)
  · clear F3 N3
    intro i c tc m₁ news₁ h4 tk4 own hi _ hoff hJ F₁ N₁
    refine absQ fun st tk4 P hP => ?_
    obtain ⟨lc, lb, t1, t2, out, ws, n, e1, e2, e3, hnl, rfl, hw, hst, hlb, g1, g2, hout⟩ := hJ
    replace F₁ := frKnow (Str.ofString "leftchar") F₁ (by rw [if_neg (by decide)]; exact e1)
    replace F₁ := frKnow (Str.ofString "leftbits") F₁ (by rw [if_neg (by decide), if_neg (by decide)]; exact e2)
    replace F₁ := frKnow (Str.ofString "out") F₁ (by rw [if_neg (by decide), if_neg (by decide), if_neg (by decide)]; exact e3)
    replace N₁ := newsFirst N₁
    have hown : ∀ p ∈ own, p.1 ≠ r := hoff.ne (.head _)
    have hil : i < b.size := by have := (List.getElem?_eq_some_iff.mp hi).1; simpa using this
    have hwl : ws.length ≤ 100 := by have := hw.length; omega
    have hci : (KBw.bInts b)[i]? = some ((c.toNat : Nat) : Int) := by simp [KBw.bInts, hi]
    have gc : (0 : Int) ≤ (c.toNat : Int) ∧ (c.toNat : Int) < 256 := ⟨by omega, by have := c.toNat_lt; omega⟩
    generalize (c.toNat : Int) = cc at F₁ gc hci
    have hlc := bitAnd_range (Builtin.bitOr (lc * 2 ^ Int.toNat 8) cc) (y := 65535) (by decide)
    have hnx := b2aFold_take hci
    rw [← hst] at hnx
    rcases hlb with rfl | rfl | rfl
    · walk_at "m steps"
      refine b64_item (bitAnd_range _ (by decide)).1 (Int.lt_of_le_of_lt (bitAnd_range _ (y := 63) (by decide)).2 (by decide)) ?_ rfl (fun _ => rfl)
      walk_at "m steps"
      rename Fr _ _ _ _ => F9
      rename News _ _ _ _ => N9
      refine hP _ _ _ <| invEnd1 F9 N9 ⟨_, _, _, _, _, _, _, rfl, rfl, rfl, hnl, rfl, intsSnoc hw, (by rw [hnx]; rfl), .inr (.inl rfl), hlc.1, by omega, by simp only [List.length_append, List.length_cons, List.length_nil]; omega⟩
    · walk_at "m steps"
      refine b64_item (bitAnd_range _ (by decide)).1 (Int.lt_of_le_of_lt (bitAnd_range _ (y := 63) (by decide)).2 (by decide)) ?_ rfl (fun _ => rfl)
      walk_at "m steps"
      rename Fr _ _ _ _ => F9
      rename News _ _ _ _ => N9
      refine hP _ _ _ <| invEnd1 F9 N9 ⟨_, _, _, _, _, _, _, rfl, rfl, rfl, hnl, rfl, intsSnoc hw, (by rw [hnx]; rfl), .inr (.inr rfl), hlc.1, by omega, by simp only [List.length_append, List.length_cons, List.length_nil]; omega⟩
    · walk_at "m steps"
      refine b64_item (bitAnd_range _ (by decide)).1 (Int.lt_of_le_of_lt (bitAnd_range _ (y := 63) (by decide)).2 (by decide)) ?_ rfl (fun _ => rfl)
      walk_at "m steps"
      refine b64_item (bitAnd_range _ (by decide)).1 (Int.lt_of_le_of_lt (bitAnd_range _ (y := 63) (by decide)).2 (by decide)) ?_ rfl (fun _ => rfl)
      walk_at "m steps"
      rename Fr _ _ _ _ => F9
      rename News _ _ _ _ => N9
      refine hP _ _ _ <| invEnd1 F9 N9 ⟨_, _, _, _, _, _, _, rfl, rfl, rfl, hnl, rfl, intsSnoc (intsSnoc hw), (by rw [hnx]; rfl), .inl rfl, hlc.1, by omega, by simp only [List.length_append, List.length_cons, List.length_nil]; omega⟩
  · clear F3 N3
    rintro m₁ news₁ h4 tk4 ⟨lc, lb, t1, t2, out, ws, n, e1, e2, e3, hnl, rfl, hw, hst, hlb, g1, g2, hout⟩ F₁ N₁
    replace F₁ := frKnow (Str.ofString "leftchar") F₁ e1
    replace F₁ := frKnow (Str.ofString "leftbits") F₁ (by rw [if_neg (by decide)]; exact e2)
    replace F₁ := frKnow (Str.ofString "out") F₁ (by rw [if_neg (by decide), if_neg (by decide)]; exact e3)
    replace F₁ := frKnow (Str.ofString "newline") F₁ (by rw [if_neg (by decide), if_neg (by decide), if_neg (by decide)]; exact hnl)
    have r3 := bitAnd_range lc (y := 3) (by decide)
    have r15 := bitAnd_range lc (y := 15) (by decide)
    have hown : ∀ p ∈ ([] : List (Addr × Obj)), p.1 ≠ r := fun _ hp => nomatch hp
    have hb3 : b.toList.length ≤ 3 := by simpa using hz
    have hwl : ws.length ≤ 100 := by have := hw.length; omega
    have hst' : (lc, lb, out) = b2aFold (KBw.bInts b) := by
      rw [hst, List.take_of_length_le (by simp [KBw.bInts])]
    have hoct : Octets out := by have := b2aFold_octets (KBw.bInts b); rw [← hst'] at this; exact this
    have hres : b2a (KBw.bInts b) = b2aEnd (lc, lb, out) := by unfold b2a; rw [← hst']
    rcases hlb with rfl | rfl | rfl
    · walk_at "m steps"
      rename Fr _ _ _ _ => F9
      rw [hres] at h
      exact h _ _ _ F9.keep
    · walk_at "m steps"
      refine b64_item (by have e : (2 : Int) ^ Int.toNat 4 = 16 := rfl; rw [e]; omega) (by have e : (2 : Int) ^ Int.toNat 4 = 16 := rfl; rw [e]; omega) ?_ rfl (fun _ => rfl)
      walk_at "m steps"
      rename Fr _ _ _ _ => F9
      rename News _ _ _ _ => N9
      refine call_bytes_ints (l := r) (isL N9) (intsSnoc (intsSnoc (intsSnoc hw))) (((hoct.snoc (b64at_range _)).snoc (a := 61) (by decide)).snoc (a := 61) (by decide)) ?_ ?_ ?_
      · simp only [List.length_append, List.length_cons, List.length_nil]; rw [sizeLine_eq]; omega
      · rfl
      intro h9 t9 k9 hk9
      have hfin := h h9 k9 t9 (fun q o e => hk9 q o (F9.keep q o e))
      rw [hres] at hfin
      exact hfin
    · walk_at "m steps"
      refine b64_item (by have e : (2 : Int) ^ Int.toNat 2 = 4 := rfl; rw [e]; omega) (by have e : (2 : Int) ^ Int.toNat 2 = 4 := rfl; rw [e]; omega) ?_ rfl (fun _ => rfl)
      walk_at "m steps"
      rename Fr _ _ _ _ => F9
      rename News _ _ _ _ => N9
      refine call_bytes_ints (l := r) (isL N9) (intsSnoc (intsSnoc hw)) ((hoct.snoc (b64at_range _)).snoc (a := 61) (by decide)) ?_ ?_ ?_
      · simp only [List.length_append, List.length_cons, List.length_nil]; rw [sizeLine_eq]; omega
      · rfl
      intro h9 t9 k9 hk9
      have hfin := h h9 k9 t9 (fun q o e => hk9 q o (F9.keep q o e))
      rw [hres] at hfin
      exact hfin

theorem b64enc_spec {w : World} {mean : ExcName → Option Value} {mg mb : Str → Option Value} {s : Shared} {Q E : Value → Shared → Prop} {b : Array UInt8} {t : Tok}
    (X : (hd.heap_39 w.params).In s.heap) (T : Tp mean mg mb s.heap) (hz : b.size ≤ 3)
    (h : ∀ h' tk t', Kp s.heap h' → Q (.bytes (byteArr (b2a (KBw.bInts b))) t') { s with heap := h', toks := tk }) :
    wpAny (Md w) (lv 880 8800) (call (.ref 116) [.bytes b t]) Q E s := by
  w_on
  k_dflt (refine' enterP (binds := [(Str.ofString "s", .bytes b t), (Str.ofString "altchars", .none)]) X T ?ho ?hcd ?hroom ?hb ?hl ?c1 ?c2 ?c3 ?c4 ?_; walk_at "m enter")
  intro L h₁ F N
  walk_at "m steps"
  refine Halt.on (lower (b2a_spec (X.keeps F.keep) (T.keeps F.keep) hz ?_) rfl (Nat.le_of_ble_eq_true rfl) (Nat.le_of_ble_eq_true rfl))
  intro h2 tk2 t2 k2
  replace F := F.keeps k2
  replace N := N.grown k2
  walk_at "m steps"
  dsimp only
  rename Fr _ _ _ _ => F'
  exact h _ _ _ F'.keep

section
variable {prog : Program} {w : World} {A : Around} {E : Value → Shared → Prop} {s : Shared} {h₀ : Heap} {L : Addr} {m : Str → Option Value} {env : Env} {elt iter : Expr} {x : Str} {scope : Scope} {cl : List (Str × Addr)}
open LCg
/-- the turns of a comprehension, by what holds before each -/
theorem rest_ind {S : List (Addr × Obj) → Prop} {P : Nat → Value → Prop} {Fin : List Value → List (Addr × Obj) → Prop} {n : Nat} {news : List (Addr × Obj)} (J : Nat → List Value → List (Addr × Obj) → Prop) (h0 : J 0 [] news)
    (turn : ∀ i ys nw v I oI C oC D m₂ h tk (E' : Value → Shared → Prop), i < n → J i ys nw → P i v → NsObj oC m₂ → m₂ x = some v → Fr h₀ L h m → News h₀ L h ((I, oI) :: (C, oC) :: (D, lst ys) :: nw) → Off3 I C D nw → ((@Ne Nat I C) ∧ (@Ne Nat I D) ∧ (@Ne Nat C D)) →
      wpAny (model prog w) A (eval elt (compEnvC scope cl C env)) (CompEnd h₀ L m { s with heap := h, toks := tk } I oI C oC D (lst ys) S (fun y nw' => J (i + 1) (ys ++ [y]) nw')) E' { s with heap := h, toks := tk })
    (fin : ∀ ys nw, J n ys nw → Fin ys nw) : CompRest prog w A h₀ L m env elt x scope cl s S P Fin n 0 [] news := by
  have key : ∀ (j i : Nat) (ys : List Value) (nw : List (Addr × Obj)), i + j = n → J i ys nw → CompRest prog w A h₀ L m env elt x scope cl s S P Fin j i ys nw := by
    intro j
    induction j with
    | zero =>
      intro i ys nw hi hj
      obtain rfl : i = n := by omega
      exact CompRest.zero (fin ys nw hj)
    | succ j ih =>
      intro i ys nw hi hj
      refine CompRest.succ ?_
      intro v I oI C oC D m₂ h tk E' hv hC hx F N off ne
      refine wpAny_mono (turn i ys nw v I oI C oC D m₂ h tk E' (by omega) hj hv hC hx F N off ne) (fun y s₂ hq => ?_) fun _ _ e => e
      obtain ⟨h', tk', nw', e, F', N', off', hS, hn⟩ := hq
      exact ⟨h', tk', nw', e, F', N', off', hS, ih (i + 1) _ _ (by omega) hn⟩
  exact key n 0 [] news (by omega) h0
def SrcB (prog : Program) (w : World) (A : Around) (h₀ : Heap) (L : Addr) (m : Str → Option Value) (env : Env) (elt : Expr) (x : Str) (scope : Scope) (cl : List (Str × Addr)) (Fin : Shared → List Value → List (Addr × Obj) → Prop) (xv : Value) (s₁ : Shared) : Prop :=
  ∃ b tb news, xv = .bytes b tb ∧ A.handled = none ∧ Fr h₀ L s₁.heap m ∧ News h₀ L s₁.heap news ∧ b.size ≤ sizeLine ∧
    ∀ s₂ : Shared, (∃ h, s₂ = { s₁ with heap := h }) → CompRest prog w A h₀ L m env elt x scope cl s₂ (fun _ => True) (fun i v => ∃ c u, b[i]? = some c ∧ v = .int ((c.toNat : Nat) : Int) u) (Fin s₂) b.size 0 [] news
theorem ListComp_B {px : Pos} {pos : Pos} {Q : Value → Shared → Prop} (_F₀ : Fr h₀ L s.heap m)
    (hclos : closureFor scope env = pure cl) (hcell : ∀ y ∈ scope.names, y.2 ≠ .cell) (hkind : scope.kind = .function)
    (hnames : ∀ y ∈ scope.names, y.2 = .local → scope.names.lookup y.1 = some .local) (hx : scope.names.lookup x = some .local)
    (h : wpAny (model prog w) A (eval iter env) (fun xv s₁ => Halt (SrcB prog w A h₀ L m env elt x scope cl (fun s₂ => FinE h₀ L m s₂ Q) xv s₁)) E s)
    (hs : ∀ x, foldedSetIterable iter env x = pure x := by intro _; rfl) :
    wpAny (model prog w) A (eval (.ListComp elt [⟨.Name x px, iter, [], 0⟩] scope pos) env) Q E s := by
  rw [eval_ListComp]
  refine wpAny_comprehension_free (use := none) rfl hs hclos hkind hnames (wpAny_mono h (fun xv s₁ h₁ => ?_) fun _ _ e => e)
  obtain ⟨b, tb, news, rfl, hh, F, N, hsz, R⟩ := h₁
  refine KBw.pyIter_bytes ?_
  refine block_U (KBw.walks hh s₁.heap.objs.size b tb) hsz (fun i h st => by obtain ⟨o, e, _⟩ := st; exact ⟨o, e⟩) (fun i h h' o nw st e e' _ _ _ => by obtain ⟨o', q, r⟩ := st; rw [e] at q; cases q; exact ⟨o, e', r⟩) hcell hkind hx ⟨_, Heap.get?_push_size _ rfl, rfl, rfl⟩ (fun b hb => ?_)
      (F.keeps fun _ _ e => Heap.get?_push_of_some _ e) (N.grown fun _ _ e => Heap.get?_push_of_some _ e) (Nat.ne_of_lt F.ns.lt) (next_is_new F) (fun p hp => Nat.ne_of_lt (Heap.lt_size (N p hp).1)) trivial (R _ ⟨_, rfl⟩) ?_
  · rw [List.mem_singleton.mp hb]
    show s₁.heap.objs.size < (s₁.heap.push _).objs.size
    rw [Heap.size_push]; exact Nat.lt_succ_self _
  · intro D C h tk m' ys news' F' N' o1 hn hC₀ hD₀ hCL hDL hCD offC fin
    refine ⟨m', hn, fun h'' hs'' => fin D h'' tk (F'.change hs'' hCL hC₀) (fun p hp => ?_) o1⟩
    refine ⟨hs''.extBut _ _ ?_ (N' p hp).1, (N' p hp).2⟩
    rcases List.mem_cons.mp hp with rfl | hp
    · exact Ne.symm hCD
    · exact offC p hp
end
theorem enterC {prog : Program} {w : World} {A : Around} {s : Shared} {K : Frag} {p : Program} {loose : List Str} {mean : ExcName → Option Value} {mg mb : Str → Option Value}
    {Q E : Value → Shared → Prop} {name qual : Str} {params : Arguments} {body : List Stmt} {scope : Scope} {dV kV doc pm cdv ct oc : Value} {an od : Option Addr} {osl : Array (Option Value)} {f : Addr} {pos : List Value} {kw : List (Str × Value)} {binds : List (Str × Value)}
    (X : K.In s.heap) (T : Top p loose mean mg mb s.heap)
    (ho : K.lookup f = some ⟨oc, od, .func (fnOf name qual params body scope dV kV doc pm an cdv ct), osl⟩) (hcd : codeIn K cdv qual = true) (hroom : A.depth < recursionLimit)
    (hbind : BindsTo s (fnOf name qual params body scope dV kV doc pm an cdv ct) ⟨pos, kw⟩ binds)
    (hkind : ∀ n, ∀ x ∈ binds, scope.names.lookup x.1 = some .local ∨ (scope.names.lookup x.1 = some .cell ∧ ((cellsFrom n scope.names []).lookup x.1).isSome = true))
    (hnd : ((cellsFrom 0 scope.names []).map (·.1)).Nodup)
    (hco : scope.isCoroutine = false) (hgen : scope.isGenerator = false) (hk : scope.kind = .function)
    (h : ∀ L h₁ tk cells, Fr s.heap L h₁ (bindL (envOfC qual scope L f cdv).kindOf binds fun _ => none) → News s.heap L h₁ cells →
      CellsAre (bindC (envOfC qual scope L f cdv).kindOf binds fun _ => none) (cellsFrom (L + 1) scope.names []) cells →
      wpAny (model prog w) (A.deeper (envOfC qual scope L f cdv)) (execs body (envOfC qual scope L f cdv))
        (fun fl s' => Q (match fl with | .ret v => v | _ => .none) s') (fun _ _ => False)
        { s with heap := h₁, toks := tk }) :
    wpAny (model prog w) A (call (.ref f) pos kw) Q E s := by
  refine wpAny_call ?_
  refine codeAny_call_function hroom (X _ _ ho) rfl hco hgen rfl (codeRec_of X hcd) (hbind _ _ _ _ ?_)
  refine wpAny_newFunctionEnv_cells hk (hkind _) fun env' he s' x => ?_
  subst he
  refine ⟨T.nolimit.keeps x.toInCall.keep, codeAny_func ?_⟩
  obtain ⟨h₁, tk, rfl, _⟩ := x.done
  have hk₁ := x.toInCall.keep
  obtain ⟨cells, NC, Y⟩ := Cl.news (h₀ := s.heap) (Nat.le_refl _) fun n c hm => ⟨x.cell n c (lookup_of_mem_nodup (cellsFrom_names scope.names 0 (s.heap.objs.size + 1) [] [] rfl ▸ hnd) hm), x.above n c hm⟩
  exact wpAny_mono (h s.heap.objs.size h₁ tk cells ⟨x.toInCall.ns, hk₁, Nat.le_refl _⟩ NC Y) (fun fl s' x => x) fun _ _ x => x.elim
section
variable {prog : Program} {w : World} {A : Around} {E : Value → Shared → Prop} {s : Shared} {env : Env} {h₀ : Heap} {x : Str} {body : List Stmt} {Q : Flow → Shared → Prop}
theorem for_range {r : Addr} {a b : Int} {t u v : Tok} {n : Nat} {m₀ : Str → Option Value} {news : List (Addr × Obj)} (J : Nat → (Str → Option Value) → List (Addr × Obj) → Prop)
    (hh : A.handled = none) (hr : IsRange s.heap r a b 1 t u v) (hsm : Builtin.Range.small a b 1 = true) (hn : Builtin.Range.rangeSize a b 1 = ((n : Nat) : Int)) (F : Fr h₀ env.locals s.heap m₀) (N : News h₀ env.locals s.heap news) (hj : J 0 m₀ news)
    (turn : ∀ i t m₁ news₁ h tk own, i < n → news₁.map (·.1) = news.map (·.1) → OwnOff own (news.map (·.1)) → J i m₁ news₁ → Fr h₀ env.locals h (fun y => if y = x then some (.int (a + (i : Int)) t) else m₁ y) → News h₀ env.locals h (news₁ ++ own) →
      wpAny (model prog w) A (execs body env) (InvPostN h₀ env.locals (J (i + 1)) own (news.map (·.1)) { s with heap := h, toks := tk } Q) E { s with heap := h, toks := tk })
    (done : ∀ m₁ news₁ h tk, J n m₁ news₁ → Fr h₀ env.locals h m₁ → News h₀ env.locals h news₁ → Q .next { s with heap := h, toks := tk }) :
    wpAny (model prog w) A (pyIter (.ref r)) (fun it s₂ => LoopAtV prog w A h₀ env x body Q E it s₂) E s := by
  refine wpAny_pyIter_range hr hsm ?_
  have W := LCg.range_walks (prog := prog) (w := w) (A := A) (I := s.heap.objs.size) hh a n
  refine loop_invN J W ?_ ?_ ?_ ?_ (by show IsRangeIter _ _ _ _ _; rw [hn]; simpa using Heap.get?_push_size _ rfl) (F.push _) (fun p hp => ⟨Heap.get?_push_of_some _ (N p hp).1, (N p hp).2⟩) hj ?_ ?_
  · intro hm
    exact absurd F.ns.lt ((List.mem_singleton.mp hm) ▸ Nat.lt_irrefl _)
  · intro b' hb
    rw [List.mem_singleton.mp hb]
    exact next_is_new F
  · intro p hp hI
    exact absurd (Heap.lt_size (N p hp).1) ((List.mem_singleton.mp hI) ▸ Nat.lt_irrefl _)
  · intro p hp hI
    exact absurd (Heap.lt_size (N p hp).1) ((List.mem_singleton.mp hI) ▸ Nat.lt_irrefl _)
  · rintro i v m₁ news₁ h tk own hi ⟨u, rfl⟩
    exact turn i u m₁ news₁ h tk own hi
  · exact done
end

local macro_rules | `(tactic| walk_at "eval ListComp") => `(tactic| (k_dflt (refine LCg.ListComp_U (F₀ := by k_asm) (by with_unfolding_all rfl) (by decide) (by rfl) (by decide) (by rfl) ?_)))
local macro_rules | `(tactic| walk_at "exec Assign cons ListComp") => `(tactic| (k_dflt (refine LCg.Assign_ListComp_U (F₀ := by k_asm) (by rfl) (by with_unfolding_all rfl) (by with_unfolding_all rfl) (by decide) (by rfl) (by decide) (by rfl) (by rfl) (by rfl) ?_)))
local macro_rules | `(tactic| walk_at "CompSrc") => `(tactic| refine halt_of ?_)
local macro_rules | `(tactic| walk_at "CompEnd") => `(tactic| refine halt_of ?_)
local macro_rules | `(tactic| walk_at "FinE") => `(tactic| refine halt_of ?_)
local macro_rules | `(tactic| walk_at "FinA") => `(tactic| refine halt_of ?_)
theorem For_haltT {prog : Program} {w : World} {A : Around} {E : Value → Shared → Prop} {s : Shared} {env : Env} {x : Str} {body : List Stmt} {Q : Flow → Shared → Prop} {px pos : Pos} {iter : Expr} {h₀ : Heap} {m : Str → Option Value} (_F : Fr h₀ env.locals s.heap m)
    (hE : PassesOwn (model prog w) A env E)
    (h : wpAny (model prog w) A (eval iter env) (fun xv s₁ => Halt (wpAny (model prog w) A (pyIter xv) (fun it s₂ => LoopAtT prog w A h₀ env (.Name x px) body Q E it s₂) E s₁)) E s)
    (hs : ∀ x, foldedSetIterable iter env x = pure x) :
    wpAny (model prog w) A (exec (.For (.Name x px) iter body [] pos) env) Q E s := For_invT h₀ h hs hE
section
variable {prog : Program} {w : World} {A : Around} {E : Value → Shared → Prop} {s : Shared} {env : Env} {h₀ : Heap} {x : Str} {px : Pos} {body : List Stmt} {Q : Flow → Shared → Prop}
theorem for_valsT {l : Addr} {vs : List Value} {m₀ : Str → Option Value} {news : List (Addr × Obj)} (J : Nat → (Str → Option Value) → List (Addr × Obj) → Prop)
    (hh : A.handled = none) (hl : h₀.IsList l vs.toArray) (F : Fr h₀ env.locals s.heap m₀) (N : News h₀ env.locals s.heap news) (hj : J 0 m₀ news)
    (turn : ∀ i v m₁ news₁ (s₁ : Shared) own (P : Flow → Shared → Prop), vs[i]? = some v → news₁.map (·.1) = news.map (·.1) → OwnOff own (news.map (·.1)) → J i m₁ news₁ → Fr h₀ env.locals s₁.heap m₁ → News h₀ env.locals s₁.heap (news₁ ++ own) → (∀ s₂, InvEndN h₀ env.locals (J (i + 1)) own (news.map (·.1)) s₁ s₂ → P .next s₂) →
      wpAny (model prog w) A (assign (.Name x px) env v) (fun _ s₃ => wpAny (model prog w) A (execs body env) P E s₃) E s₁)
    (done : ∀ m₁ news₁ h tk, J vs.length m₁ news₁ → Fr h₀ env.locals h m₁ → News h₀ env.locals h news₁ → Q .next { s with heap := h, toks := tk }) :
    wpAny (model prog w) A (pyIter (.ref l)) (fun it s₂ => LoopAtT prog w A h₀ env (.Name x px) body Q E it s₂) E s := by
  have hls : s.heap.IsList l vs.toArray := hl.at fun o e => F.keep l o e
  obtain ⟨ol, hol, _⟩ := id hl
  have hlt : l < h₀.objs.size := Heap.lt_size hol
  have big : ∀ {b : Addr} {o : Obj}, h₀.get? b = some o → b < s.heap.objs.size := fun e => Nat.lt_trans (Nat.lt_of_lt_of_le (Heap.lt_size e) F.above) F.ns.lt
  have hne : l ≠ s.heap.objs.size := Nat.ne_of_lt (big hol)
  refine wpAny_pyIter_list hls ?_
  have W := Walks.list (prog := prog) (w := w) hh s.heap.objs.size l hne vs.toArray
  have hlen : vs.toArray.size = vs.length := by simp
  rw [hlen] at W
  have hfp : ∀ q ∈ news, q.1 ∉ [s.heap.objs.size, l] := fun p hp hI => by
    rcases List.mem_cons.mp hI with e | hI
    · exact absurd (Heap.lt_size (N p hp).1) (e ▸ Nat.lt_irrefl _)
    · have h3 := (N p hp).2.2
      rw [List.mem_singleton.mp hI, hol] at h3; cases h3
  refine ⟨_, _, _, _, _, _, m₀, news, fun i m₁ news₁ => news₁.map (·.1) = news.map (·.1) ∧ J i m₁ news₁, rfl, W, ?_, ?_, ?_, ⟨⟨_, Heap.get?_push_size _ rfl, rfl, rfl⟩, hls.at (fun o e => Heap.get?_push_of_some _ e)⟩, F.push _, (fun p hp => ⟨Heap.get?_push_of_some _ (N p hp).1, (N p hp).2⟩), ?_, ⟨rfl, hj⟩, ?_, ?_⟩
  · intro hm
    rcases List.mem_cons.mp hm with e | hm
    · exact absurd F.ns.lt (e ▸ Nat.lt_irrefl _)
    · exact absurd (Nat.lt_of_lt_of_le hlt F.above) ((List.mem_singleton.mp hm) ▸ Nat.lt_irrefl _)
  · intro b hb
    rw [List.mem_singleton.mp hb]
    exact next_is_new F
  · intro p hp hI
    exact absurd (Heap.lt_size (N p hp).1) ((List.mem_singleton.mp hI) ▸ Nat.lt_irrefl _)
  · intro i s' v Q' _ hq
    exact wpAny_pure hq
  · rintro i v m₁ news₁ s₁ own hin hP ⟨hadr, hJ⟩ hoff hown _ _ _ F₁ N₁
    have hsep : OwnOff own (news.map (·.1)) := by
      intro p hp b hb e
      obtain ⟨q, hq, rfl⟩ := List.mem_map.mp hb
      exact hfp q hq (e ▸ hown p hp)
    have N₂ : News h₀ env.locals s₁.heap (news₁ ++ own) := fun p hp => N₁ p ((List.mem_append.mp hp).elim (fun h => List.mem_append.mpr (.inr h)) fun h => List.mem_append.mpr (.inl h))
    refine wpAny_mono (turn i v m₁ news₁ s₁ own (fun f s₂ => match f with | .next => InvEndN h₀ env.locals (J (i + 1)) own (news.map (·.1)) s₁ s₂ | _ => False) (by simpa using hP) hadr hsep hJ F₁ N₂ (fun _ x => x)) (fun _ s₃ q => wpAny_mono q (fun f s₂ p => ?_) fun _ _ e => e) fun _ _ e => e
    cases f with
    | next =>
      obtain ⟨h', tk, m', news', nx, e, F', N', hn, ho, ha, hm⟩ := p
      refine ⟨rfl, h', tk, m', nx, e, F', fun p hp => N' p ((List.mem_append.mp hp).elim (ho p) (hn p)), fun p hp hq => ?_, ha, hm⟩
      have h1 : p.1 ∈ nx.map (·.1) := List.mem_map.mpr ⟨p, hp, rfl⟩
      rw [ha, ← hadr] at h1
      obtain ⟨q, hq1, hq2⟩ := List.mem_map.mp h1
      exact hoff q hq1 (by rw [hq2]; exact hq)
    | ret v => exact p.elim
    | brk => exact p.elim
    | cont => exact p.elim
  · rintro h' tk m' news' F' N' _ ⟨_, hJ⟩
    exact done m' news' h' tk hJ F' N'
end

/-- the octets of the law's rows -/
noncomputable def oct3 : List UInt8 := [0, 65, 251]
/-- the 39 rows that the law can build -/
noncomputable def rows39 : List (Array UInt8) := oct3.map (fun a => #[a]) ++ oct3.flatMap (fun a => oct3.map fun b => #[a, b]) ++ oct3.flatMap (fun a => oct3.flatMap fun b => oct3.map fun c => #[a, b, c])
noncomputable def enc (b : Array UInt8) : Array UInt8 := byteArr (b2a (KBw.bInts b))
noncomputable def chrs (b : Array UInt8) : List Str := b.toList.map fun c => ⟨#[c.toNat]⟩
noncomputable def txt (b : Array UInt8) : Str := Txt.join (Str.ofString "") (chrs (enc b))
theorem row_size : ∀ b ∈ rows39, b.size ≤ 3 := by decide +kernel
theorem row_pos : ∀ b ∈ rows39, 1 ≤ b.size := by decide +kernel
theorem enc_size : ∀ b ∈ rows39, (enc b).size = 4 := by decide +kernel
theorem enc_ascii : ∀ b ∈ rows39, ∀ c ∈ (enc b).toList, c.toNat < 128 := by decide +kernel
theorem txt_inj : ∀ a ∈ rows39, ∀ b ∈ rows39, txt a = txt b → a = b := by decide +kernel
theorem txt_len : ∀ b ∈ rows39, (txt b).length = 4 := by decide +kernel
theorem strsSnoc {vs : List Value} {ys : List Str} {y : Str} {t : Tok} (h : StrsAre vs ys) : StrsAre (vs ++ [.str y t]) (ys ++ [y]) := by
  induction h with
  | nil => exact .cons _ _ .nil
  | cons a u _ ih => exact .cons a u ih
theorem AllSees.byt {h : Heap} {vs : List Value} {bs : List (Array UInt8)} {i : Nat} {v : Value} (hv : AllSees h vs (bs.map .b)) (e : vs.toArray[i]? = some v) : ∃ b tb, bs[i]? = some b ∧ v = .bytes b tb := by
  obtain ⟨d, h1, h2⟩ := hv.get i v (by simpa using e)
  rw [List.getElem?_map] at h1
  obtain ⟨b, hb, rfl⟩ := Option.map_eq_some_iff.mp h1
  obtain ⟨tb, rfl⟩ := h2
  exact ⟨b, tb, hb, rfl⟩

theorem sum_ones (b : Array UInt8) : ((chrs b).map (·.length)).sum = b.size := by
  unfold chrs
  rw [List.map_map]
  have : ∀ l : List UInt8, (l.map ((fun x : Str => x.length) ∘ fun c : UInt8 => (⟨#[c.toNat]⟩ : Str))).sum = l.length := by
    intro l
    induction l with
    | nil => rfl
    | cons a l ih => rw [List.map_cons, List.sum_cons, ih, List.length_cons]; show 1 + _ = _; omega
  rw [this]; simp
section
local macro_rules | `(tactic| walk_at "eval ListComp") => `(tactic| ((with_reducible show wpAny _ _ (eval (Expr.ListComp (Expr.Call (Expr.Name _ _) _ _ _) _ _ _) _) _ _ _); refine halt_of ?_))
theorem texts_spec {w : World} {mean : ExcName → Option Value} {mg mb : Str → Option Value} {s : Shared} {Q E : Value → Shared → Prop} {l : Addr} {vs : List Value} {bs : List (Array UInt8)}
    (X : (hd.heap_39 w.params).In s.heap) (T : Tp mean mg mb s.heap) (hl : s.heap.IsList l vs.toArray) (hv : AllSees s.heap vs (bs.map .b)) (hz : bs.length ≤ 100) (h3 : ∀ b ∈ bs, b ∈ rows39)
    (h : ∀ h' tk r (ws : List Value) n, Kp s.heap h' → s.heap.get? r = none → h'.get? r = some (listOf ws.toArray n) → StrsAre ws (bs.map txt) → Q (.ref r) { s with heap := h', toks := tk }) :
    wpAny (Md w) (lv 870 8700) (call (.ref 167) [.ref l]) Q E s := by
  w_on
  k_dflt (refine' enterP (binds := [(Str.ofString "rows", .ref l)]) X T ?ho ?hcd ?hroom ?hb ?hl ?c1 ?c2 ?c3 ?c4 ?_; walk_at "m enter")
  intro L h₁ F N
  walk_at "m steps"
  rename Fr _ _ _ _ => F2
  rename News _ _ _ _ => N2
  have hvl := hv.length
  rw [List.length_map] at hvl
  refine Halt.on (LCg.CompSrc.base rfl F2 N2 hl (by rw [sizeLine_eq]; simp; omega) ?_)
  intro g
  refine rest_ind (fun i ys nw => nw = [] ∧ StrsAre ys ((bs.take i).map txt)) ⟨rfl, .nil⟩ ?_ ?_
  · clear F2 N2
    rintro i ys nw v I oI C oC D m₂ h4 tk4 E' hi ⟨rfl, hys⟩ hP hC hx F4 N4 off ne
    obtain ⟨b, tb, hb1, rfl⟩ := AllSees.byt hv hP
    have hb39 := h3 b (List.mem_of_getElem? hb1)
    have hb3 := row_size b hb39
    have hsz := enc_size b hb39
    walk_at "m steps"
    refine Halt.on ?_
    refine ListComp_B F4 (by with_unfolding_all rfl) (by decide) (by rfl) (by decide) (by rfl) ?_
    walk_at "m steps"
    refine Halt.on (lower (b64enc_spec (X.keeps F4.keep) (T.keeps F4.keep) hb3 ?_) rfl (Nat.le_of_ble_eq_true rfl) (Nat.le_of_ble_eq_true rfl))
    intro h5 tk5 t5 k5
    replace F4 := F4.keeps k5
    replace N4 := N4.grown k5
    refine Halt.on ⟨enc b, _, _, rfl, rfl, F4, N4, by rw [sizeLine_eq, hsz]; decide, ?_⟩
    rintro s₂ ⟨g2, rfl⟩
    refine rest_ind (fun i ys' nw => nw = [(I, oI), (C, oC), (D, LCg.lst ys)] ∧ StrsAre ys' ((chrs (enc b)).take i)) ⟨rfl, .nil⟩ ?_ ?_
    · clear F4 N4
      rintro j ys2 nw v2 I2 oI2 C2 oC2 D2 m3 h6 tk6 E2 hj ⟨rfl, hy2⟩ ⟨c, u, hc, rfl⟩ hC2 hx2 F6 N6 off2 ne2
      have hcc := c.toNat_lt
      walk_at "m steps"
      refine Halt.on ⟨_, _, _, rfl, F6, N6, off2, True.intro, rfl, ?_⟩
      rw [take_snoc (a := ⟨#[c.toNat]⟩) (by unfold chrs; rw [List.getElem?_map]; simp [hc])]
      exact strsSnoc hy2
    · clear F4 N4
      rintro ys2 nw ⟨rfl, hy2⟩
      intro D2 h6 tk6 F6 N6 o6
      rw [List.take_of_length_le (by simp [chrs])] at hy2
      walk_at "m steps"
      refine join_list (ys := chrs (enc b)) ⟨_, N6.get (.head _), rfl, _, rfl⟩ (by simpa using hy2) (by rw [sum_ones, hsz]; simp [chrs, hsz]; decide) ?_
      intro t7 k7
      walk_at "m steps"
      refine Halt.on ⟨_, _, [], rfl, F6, (fun p hp => N6 p (.tail _ hp)), True.intro, ?_, rfl, ?_⟩
      · exact .inl hl
      · rw [take_snoc hb1, List.map_append]
        exact strsSnoc hys
  · clear F2 N2
    rintro ys nw ⟨rfl, hys⟩
    intro D2 h6 tk6 F6 N6 o6
    walk_at "m steps"
    rw [List.take_of_length_le (by simp; omega)] at hys
    exact h _ _ _ ys _ F6.keep (N6.fresh (.head _)) (N6.get (.head _)) hys
end

noncomputable def octAt (b : Array UInt8) (k : Nat) : Int := ((b.toList.getD k 0).toNat : Int)
/-- the number that a row's octets write, three of them, zeros behind the last -/
noncomputable def numOf (b : Array UInt8) (i : Nat) : Int := (List.range i).foldl (fun n k => n * 256 + octAt b k) 0
theorem numOf_succ (b : Array UInt8) (i : Nat) : numOf b (i + 1) = numOf b i * 256 + octAt b i := by
  unfold numOf
  rw [List.range_succ, List.foldl_append]; rfl
theorem len3 {b : Array UInt8} (h : 1 ≤ b.size ∧ b.size ≤ 3) : (∃ x, b = #[x]) ∨ (∃ x y, b = #[x, y]) ∨ ∃ x y z, b = #[x, y, z] := by
  obtain ⟨l⟩ := b
  match l, h with
  | [x], _ => exact .inl ⟨x, rfl⟩
  | [x, y], _ => exact .inr (.inl ⟨x, y, rfl⟩)
  | [x, y, z], _ => exact .inr (.inr ⟨x, y, z, rfl⟩)
noncomputable def ALPH : Str := Str.ofString "ABCDEFGHIJKLMNOPQRSTUVWXYZabcdefghijklmnopqrstuvwxyz0123456789+/"
noncomputable def sgn (num : Int) (k : Int) : Str := Txt.item ALPH (Int.fmod (Int.fdiv num (64 ^ k.toNat)) 64)
theorem strs4 {vs : List Value} {a b c d : Str} (h : StrsAre vs [a, b, c, d]) : ∃ t1 t2 t3 t4, vs = [.str a t1, .str b t2, .str c t3, .str d t4] := by
  cases h with | cons _ t1 h => cases h with | cons _ t2 h => cases h with | cons _ t3 h => cases h with | cons _ t4 h => cases h; exact ⟨t1, t2, t3, t4, rfl⟩
noncomputable def signs (num : Int) : List Str := [sgn num 3, sgn num 2, sgn num 1, sgn num 0]
noncomputable def codedT (b : Array UInt8) : Str := Txt.join (Str.ofString "") ((signs (numOf b 3)).take (b.size + 1)) ++ Txt.mul (Str.ofString "=") (3 - ((b.size : Nat) : Int))
theorem coded_txt : ∀ b ∈ rows39, codedT b = txt b := by decide +kernel
theorem coded_spec {w : World} {mean : ExcName → Option Value} {mg mb : Str → Option Value} {s : Shared} {Q E : Value → Shared → Prop} {b : Array UInt8} {t : Tok}
    (X : (hd.heap_39 w.params).In s.heap) (T : Tp mean mg mb s.heap) (hz : 1 ≤ b.size ∧ b.size ≤ 3)
    (h : ∀ h' tk t', Kp s.heap h' → Q (.str (codedT b) t') { s with heap := h', toks := tk }) :
    wpAny (Md w) (lv 880 8800) (call (.ref 162) [.bytes b t]) Q E s := by
  w_on
  k_dflt (refine' enterC (binds := [(Str.ofString "row", .bytes b t)]) X T ?ho ?hcd ?hroom ?hb ?hl ?hD ?c1 ?c2 ?c3 ?_; (case ho => k_is); (case hcd => k_is); (case hroom => exact Nat.le_of_ble_eq_true rfl); (case hb => exact BindsTo.of_eq rfl); (case hl => intro n x hx; left; rw [List.mem_singleton.mp hx]; rfl); (case hD => decide +kernel); (case c1 => rfl); (case c2 => rfl); (case c3 => rfl); k_whole)
  intro L h₁ tk₁ cells F N Y
  k_cells Y
  walk_at "m steps"
  rename_i oal d1 h3 onum F2 N2 d2 h4 tk4 t1 u1 v1 hr F3 N3 k3
  clear F2 N2
  refine Halt.on (for_range (n := 3) (fun i m nw => m (Str.ofString "row") = some (.bytes b t) ∧ ∃ o t, nw = [(L + 1 + 1, o), (L + 1, oal)] ∧ o.data = .cell (some (.int (numOf b i) t))) rfl hr rfl rfl F3 N3 ⟨rfl, _, _, rfl, d2⟩ ?_ ?_)
  · clear F3 N3
    intro i tk' m₁ news₁ h5 tk5 own hi _ hoff hJ F₁ N₁
    refine absQ fun st tk5 P hP => ?_
    obtain ⟨e1, o, to, rfl, hdo⟩ := hJ
    replace F₁ := frKnow (Str.ofString "row") F₁ (by rw [if_neg (by decide)]; exact e1)
    replace N₁ : News s.heap L h5 ((L + 1 + 1, o) :: (L + 1, oal) :: own) := N₁
    have hown : ∀ p ∈ own, p.1 ≠ L + 1 + 1 := hoff.ne (.head _)
    walk_at "m steps"
    · rename_i hlt
      obtain ⟨bl⟩ := b
      refine bytes_item_K (x := bl) (k := octAt ⟨bl⟩ i) (by have := hz.2; simp at this; omega) (by omega) (by simpa using hlt) (by unfold octAt; rw [Int.zero_add, Int.toNat_natCast]) ?_
      walk_at "m steps"
      rename_i h6 o6 F6 N6 d6
      refine hP _ _ _ ⟨h6, _, _, _, [(L + 1 + 1, o6), (L + 1, oal)], rfl, F6, N6, ?_, ?_, rfl, rfl, _, _, rfl, (by rw [numOf_succ]; exact d6)⟩
      · intro p hp
        rcases List.mem_cons.mp hp with rfl | hp
        · exact .head _
        · rw [List.mem_singleton.mp hp]; exact .tail _ (.head _)
      · intro p hp; exact .tail _ (.tail _ hp)
    · rename_i hlt h6 o6 F6 N6 d6
      have hz0 : octAt b i = 0 := by
        unfold octAt
        have hq : b.toList.length ≤ i := by simp; omega
        rw [List.getD_eq_getElem?_getD, List.getElem?_eq_none hq]; rfl
      refine hP _ _ _ ⟨h6, _, _, _, [(L + 1 + 1, o6), (L + 1, oal)], rfl, F6, N6, ?_, ?_, rfl, rfl, _, _, rfl, (by rw [numOf_succ, hz0]; exact d6)⟩
      · intro p hp
        rcases List.mem_cons.mp hp with rfl | hp
        · exact .head _
        · rw [List.mem_singleton.mp hp]; exact .tail _ (.head _)
      · intro p hp; exact .tail _ (.tail _ hp)
  · clear F3 N3
    rintro m₁ news₁ h5 tk5 ⟨e1, o, to, rfl, hdo⟩ F₁ N₁
    replace F₁ := frKnow (Str.ofString "row") F₁ e1
    generalize hnum : numOf b 3 = num at hdo
    walk_at "m steps"
    rename_i l9 h9 F9 N9 q9
    refine Halt.on (LCg.CompSrc.ledger rfl F9 N9 (.head _) (by rw [sizeLine_eq]; exact Nat.le_of_ble_eq_true rfl) ?_)
    intro g
    refine rest_ind (fun i ys nw => nw = [(l9, listOf #[.int 3 tk5, .int 2 (tk5 + 1), .int 1 (tk5 + 1 + 1), .int 0 (tk5 + 1 + 1 + 1)] 0), (L + 1 + 1, o), (L + 1, oal)] ∧ StrsAre ys ((signs num).take i)) ⟨rfl, .nil⟩ ?_ ?_
    · clear F9 N9
      intro i ys nw v I oI C oC D m₂ h6 tk6 E' hi hJ hPv hC hx F6 N6 off ne
      refine absQ fun st tk6 Q9 hQ9 => ?_
      obtain ⟨rfl, hys⟩ := hJ
      have hP := hPv
      have hv : ∃ k tk, v = .int k tk ∧ (k = 3 ∨ k = 2 ∨ k = 1 ∨ k = 0) ∧ (signs num)[i]? = some (sgn num k) := by
        have hi4 : i < 4 := hi
        rcases (by omega : i = 0 ∨ i = 1 ∨ i = 2 ∨ i = 3) with rfl | rfl | rfl | rfl
        · exact ⟨3, _, (Option.some.inj hP).symm, by decide, rfl⟩
        · exact ⟨2, _, (Option.some.inj hP).symm, by decide, rfl⟩
        · exact ⟨1, _, (Option.some.inj hP).symm, by decide, rfl⟩
        · exact ⟨0, _, (Option.some.inj hP).symm, by decide, rfl⟩
      obtain ⟨k, tkk, rfl, hk, hsg⟩ := hv
      rcases hk with rfl | rfl | rfl | rfl
      all_goals
        walk_at "m steps"
        refine hQ9 _ _ _ (Halt.on ⟨_, _, _, rfl, F6, N6, off, .inr ⟨_, .head _, rfl, _, rfl⟩, rfl, ?_⟩)
        rw [take_snoc hsg]
        exact strsSnoc hys
    · clear F9 N9
      rintro ys nw ⟨rfl, hys⟩
      intro D2 h6 tk6 F6 N6 o6
      have hys' : StrsAre ys (signs num) := hys
      clear hys
      obtain ⟨a1, a2, a3, a4, rfl⟩ := strs4 hys'
      have hone : ∀ k, (sgn num k).length = 1 := fun k => rfl
      rcases len3 hz with ⟨x, rfl⟩ | ⟨x, y, rfl⟩ | ⟨x, y, z, rfl⟩
      · walk_at "m steps"
        rename_i F7 N7 _
        refine join_list (ys := [sgn num 3, sgn num 2]) (isL N7) (.cons _ _ (.cons _ _ .nil)) (by simp [hone]; decide) ?_
        intro t8 k8
        walk_at "m steps"
        rename Fr _ _ _ _ => F8
        have hfin := fun hp tk tt k => h hp tk tt k
        unfold codedT at hfin
        rw [hnum] at hfin
        exact hfin _ _ _ F8.keep
      · walk_at "m steps"
        rename_i F7 N7 _
        refine join_list (ys := [sgn num 3, sgn num 2, sgn num 1]) (isL N7) (.cons _ _ (.cons _ _ (.cons _ _ .nil))) (by simp [hone]; decide) ?_
        intro t8 k8
        walk_at "m steps"
        rename Fr _ _ _ _ => F8
        have hfin := fun hp tk tt k => h hp tk tt k
        unfold codedT at hfin
        rw [hnum] at hfin
        exact hfin _ _ _ F8.keep
      · walk_at "m steps"
        rename_i F7 N7 _
        refine join_list (ys := [sgn num 3, sgn num 2, sgn num 1, sgn num 0]) (isL N7) (.cons _ _ (.cons _ _ (.cons _ _ (.cons _ _ .nil)))) (by simp [hone]; decide) ?_
        intro t8 k8
        walk_at "m steps"
        rename Fr _ _ _ _ => F8
        have hfin := fun hp tk tt k => h hp tk tt k
        unfold codedT at hfin
        rw [hnum] at hfin
        exact hfin _ _ _ F8.keep

noncomputable def octI (x : Int) (k : Nat) : Int := [0, 65, 251].getD (((x.fdiv 9).fdiv (3 ^ k)).fmod 3).toNat 0
noncomputable def lenI (x : Int) : Nat := (1 + (x.fdiv 3).fmod 3).toNat
noncomputable def rowI (x : Int) : List Int := (List.range (lenI x)).map (octI x)
/-- the row that a number of the script says -/
noncomputable def rowOf (x : Int) : Array UInt8 := byteArr (rowI x)
theorem lenI_eq (x : Int) : ((lenI x : Nat) : Int) = 1 + (x.fdiv 3).fmod 3 := by
  unfold lenI
  have := Int.fmod_nonneg_of_pos (x.fdiv 3) (b := 3) (by decide)
  omega
theorem lenI_le (x : Int) : 1 ≤ lenI x ∧ lenI x ≤ 3 := by
  have h1 := lenI_eq x
  have h2 := Int.fmod_nonneg_of_pos (x.fdiv 3) (b := 3) (by decide)
  have h3 := Int.fmod_lt_of_pos (x.fdiv 3) (b := 3) (by decide)
  omega
theorem octI_mem (x : Int) (k : Nat) : octI x k = 0 ∨ octI x k = 65 ∨ octI x k = 251 := by
  unfold octI
  have h2 := Int.fmod_nonneg_of_pos ((x.fdiv 9).fdiv (3 ^ k)) (b := 3) (by decide)
  have h3 := Int.fmod_lt_of_pos ((x.fdiv 9).fdiv (3 ^ k)) (b := 3) (by decide)
  generalize ((x.fdiv 9).fdiv (3 ^ k)).fmod 3 = a at h2 h3
  rcases (by omega : a = 0 ∨ a = 1 ∨ a = 2) with rfl | rfl | rfl
  · exact .inl rfl
  · exact .inr (.inl rfl)
  · exact .inr (.inr rfl)
theorem rowI_octets (x : Int) : ∀ n ∈ rowI x, 0 ≤ n ∧ n < 256 := fun n hn => by
  obtain ⟨k, _, rfl⟩ := List.mem_map.mp hn
  have := octI_mem x k
  omega
def BytesAre (vs : List Value) (bs : List (Array UInt8)) : Prop := ∀ h, AllSees h vs (bs.map .b)
theorem BytesAre.nil : BytesAre [] [] := fun _ => .nil
theorem BytesAre.snoc {vs : List Value} {bs : List (Array UInt8)} {b : Array UInt8} {t : Tok} (h : BytesAre vs bs) : BytesAre (vs ++ [.bytes b t]) (bs ++ [b]) := fun g => by
  rw [List.map_append]
  exact (h g).append (.cons ⟨t, rfl⟩ .nil)
theorem BytesAre.len {vs : List Value} {bs : List (Array UInt8)} (h : BytesAre vs bs) : vs.length = bs.length := by
  have := (h default).length
  rwa [List.length_map] at this
/-- the rows of the first list and of the second -/
noncomputable def firsts (ns : List Int) : List (Array UInt8) := (ns.filter fun x => x.fmod 3 ≠ 1).map rowOf
noncomputable def seconds (ns : List Int) : List (Array UInt8) := (ns.filter fun x => x.fmod 3 ≠ 0).map rowOf
theorem firsts_len (ns : List Int) : (firsts ns).length ≤ ns.length := by unfold firsts; rw [List.length_map]; exact List.length_filter_le ..
theorem seconds_len (ns : List Int) : (seconds ns).length ≤ ns.length := by unfold seconds; rw [List.length_map]; exact List.length_filter_le ..
theorem firsts_take {ns : List Int} {i : Nat} {x : Int} (h : ns[i]? = some x) : firsts (ns.take (i + 1)) = if x.fmod 3 = 1 then firsts (ns.take i) else firsts (ns.take i) ++ [rowOf x] := by
  unfold firsts
  rw [take_snoc h, List.filter_append, List.map_append]
  by_cases e : x.fmod 3 = 1 <;> simp [e]
theorem seconds_take {ns : List Int} {i : Nat} {x : Int} (h : ns[i]? = some x) : seconds (ns.take (i + 1)) = if x.fmod 3 = 0 then seconds (ns.take i) else seconds (ns.take i) ++ [rowOf x] := by
  unfold seconds
  rw [take_snoc h, List.filter_append, List.map_append]
  by_cases e : x.fmod 3 = 0 <;> simp [e]
theorem lists_end {h₀ h' : Heap} {L a b c : Addr} {J : (Str → Option Value) → List (Addr × Obj) → Prop} {m' : Str → Option Value} {own : List (Addr × Obj)} {oa ob oc : Obj} {s₁ : Shared} {tk : Nat} (F : Fr h₀ L h' m') (N : News h₀ L h' ((a, oa) :: (b, ob) :: (c, oc) :: own)) (hj : J m' [(a, oa), (b, ob), (c, oc)]) :
    InvEndN h₀ L J own [a, b, c] s₁ { s₁ with heap := h', toks := tk } :=
  ⟨h', tk, m', _, [(a, oa), (b, ob), (c, oc)], rfl, F, N, (fun p hp => by simp only [List.mem_cons, List.not_mem_nil, or_false] at hp ⊢; rcases hp with rfl | rfl | rfl <;> simp), (fun p hp => .tail _ (.tail _ (.tail _ hp))), rfl, hj⟩
section
local macro_rules | `(tactic| walk_at "exec For Name Name cons nil") => `(tactic| ((rename Fr _ _ _ _ => lF'); (with_unfolding_all refine' For_haltT lF' ?hE ?_ ?hs; (case hE => passes_own); (case hs => intro _; rfl))))
local macro_rules | `(tactic| walk_at "call builtin:list.append") => `(tactic| refine halt_of ?_)
theorem lists_spec {w : World} {mean : ExcName → Option Value} {mg mb : Str → Option Value} {s : Shared} {Q E : Value → Shared → Prop} {l : Addr} {vs : List Value} {ns : List Int}
    (X : (hd.heap_39 w.params).In s.heap) (T : Tp mean mg mb s.heap) (hl : s.heap.IsList l vs.toArray) (hi : IntsAre vs ns) (hz : ns.length ≤ 9)
    (h : ∀ h' tk r r1 r2 (ws1 ws2 : List Value) n1 n2, Kp s.heap h' → s.heap.get? r = none → s.heap.get? r1 = none → s.heap.get? r2 = none → (@Ne Nat r1 r2) → (@Ne Nat r r1) → (@Ne Nat r r2) → h'.get? r = some { cls := .type "tuple", data := .seq #[.ref r1, .ref r2] } → h'.get? r1 = some (listOf ws1.toArray n1) → h'.get? r2 = some (listOf ws2.toArray n2) →
      BytesAre ws1 (firsts ns) → BytesAre ws2 (seconds ns) → Q (.ref r) { s with heap := h', toks := tk }) :
    wpAny (Md w) (lv 900 9000) (call (.ref 157) [.ref l]) Q E s := by
  w_on
  k_dflt (refine' enterC (binds := [(Str.ofString "numbers", .ref l)]) X T ?ho ?hcd ?hroom ?hb ?hl ?hD ?c1 ?c2 ?c3 ?_; (case ho => k_is); (case hcd => k_is); (case hroom => exact Nat.le_of_ble_eq_true rfl); (case hb => exact BindsTo.of_eq rfl); (case hl => intro n x hx; left; rw [List.mem_singleton.mp hx]; rfl); (case hD => decide +kernel); (case c1 => rfl); (case c2 => rfl); (case c3 => rfl); k_whole)
  intro L h₁ tk₁ cells F N Y
  k_cells Y
  walk_at "m steps"
  rename_i oc dc r1 _ q1 r2 _ q2 D _ q3 _ _ h9 F9 N9
  have N3 : News s.heap L h9 [(L + 1, oc), (r1, listOf ([] : List Value).toArray 0), (r2, listOf ([] : List Value).toArray 0)] := fun p hp => N9 p (by simp only [List.mem_cons, List.not_mem_nil, or_false] at hp ⊢; rcases hp with rfl | rfl | rfl <;> simp)
  refine Halt.on (for_valsT (fun i m nw => m (Str.ofString "first") = some (.ref r1) ∧ m (Str.ofString "second") = some (.ref r2) ∧ ∃ o v0 ws1 n1 ws2 n2, nw = [(L + 1, o), (r1, listOf ws1.toArray n1), (r2, listOf ws2.toArray n2)] ∧ o.data = .cell v0 ∧ BytesAre ws1 (firsts (ns.take i)) ∧ BytesAre ws2 (seconds (ns.take i)))
    rfl hl F9 N3 ⟨rfl, rfl, oc, _, [], 0, [], 0, rfl, dc, BytesAre.nil, BytesAre.nil⟩ ?_ ?_)
  · clear F9 N9 N3
    intro i v m₁ news₁ s₁ own P hv _ hoff hJ F₁ N₁ hP
    obtain ⟨e1, e2, o, v0, ws1, n1, ws2, n2, rfl, hdo, g1, g2⟩ := hJ
    obtain ⟨x, t, rfl, hx⟩ := IntsAre.at hi i v hv
    replace F₁ := frKnow (Str.ofString "first") F₁ e1
    replace F₁ := frKnow (Str.ofString "second") F₁ (by rw [if_neg (by decide)]; exact e2)
    obtain ⟨hp₁, gn₁, dr₁, tk₁', os₁⟩ := s₁
    replace N₁ : News s.heap L hp₁ ((L + 1, o) :: (r1, listOf ws1.toArray n1) :: (r2, listOf ws2.toArray n2) :: own) := N₁
    have hown : ∀ p ∈ own, p.1 ≠ L + 1 := hoff.ne (.head _)
    walk_at "m steps"
    rename_i h2 o2 F2 N2 d2 h3 tk3 t1 u1 v1 hr F3 N3 k3
    clear F₁ F2 N2
    have hln := lenI_eq x
    rw [← hln] at hr
    have hl3 := lenI_le x
    refine Halt.on (LCg.CompSrc.range (n := lenI x) rfl F3 N3 hr (small_one (by omega) (by omega) (by omega) (by omega)) (by rw [rangeSize_nat]; omega) (by rw [sizeLine_eq]; omega) ?_)
    intro g
    refine rest_ind (fun j ys nw => nw = (L + 1, o2) :: (r1, listOf ws1.toArray n1) :: (r2, listOf ws2.toArray n2) :: own ∧ IntsAre ys ((rowI x).take j)) ⟨rfl, .nil⟩ ?_ ?_
    · clear F3 N3
      intro j ys nw v I oI C oC D m₂ h6 tk6 E' hj hJ hPv hC hx F6 N6 off ne
      refine absQ fun st tk6 Q9 hQ9 => ?_
      obtain ⟨rfl, hys⟩ := hJ
      obtain ⟨tt, rfl⟩ := hPv
      have hg : (rowI x)[j]? = some (octI x j) := by
        unfold rowI
        rw [List.getElem?_map, List.getElem?_range hj]; rfl
      rcases (by omega : j = 0 ∨ j = 1 ∨ j = 2) with rfl | rfl | rfl
      all_goals
        walk_at "m steps"
        rename Fr _ _ _ _ => F7
        rename News _ _ _ _ => N7
        refine hQ9 _ _ _ (Halt.on ⟨_, _, _, rfl, F7, (fun p hp => N7 p (by first | exact hp | exact .tail _ hp)), off, True.intro, rfl, ?_⟩)
        rw [take_snoc hg]
        exact intsSnoc hys
    · clear F3 N3
      rintro ys nw ⟨rfl, hys⟩
      intro D2 h6 tk6 F6 N6 o6
      replace hys : IntsAre ys (rowI x) := by rw [List.take_of_length_le (by simp [rowI])] at hys; exact hys
      walk_at "m steps"
      refine call_bytes_ints (l := D2) ⟨_, N6.get (.head _), rfl, _, rfl⟩ hys (rowI_octets x) ?_ rfl ?_
      · rw [sizeLine_eq, show ys.length = lenI x from hys.length.trans (by simp [rowI])]; omega
      intro h7 t7 k7 hk7
      replace F6 := F6.keeps hk7
      replace N6 : News s.heap L h7 ((L + 1, o2) :: (r1, listOf ws1.toArray n1) :: (r2, listOf ws2.toArray n2) :: own) := fun p hp => N6.grown hk7 p (.tail _ hp)
      have c1 : (L + 1 : Nat) ≠ r1 := Nat.ne_of_lt q1
      have c2 : (L + 1 : Nat) ≠ r2 := Nat.ne_of_lt q2.2
      have c3 : (r1 : Nat) ≠ r2 := Nat.ne_of_lt q2.1
      have hown1 : ∀ p ∈ own, p.1 ≠ r1 := hoff.ne (.tail _ (.head _))
      have hown2 : ∀ p ∈ own, p.1 ≠ r2 := hoff.ne (.tail _ (.tail _ (.head _)))
      have hi9 : i < 9 := by have := (List.getElem?_eq_some_iff.mp hx).1; omega
      have hb1 := g1.len
      have hb2 := g2.len
      have hf1 := firsts_len (ns.take i)
      have hf2 := seconds_len (ns.take i)
      have htk := @List.length_take _ i ns
      have hm2 := Int.fmod_nonneg_of_pos x (b := 3) (by decide)
      walk_at "m steps"
      · rename Fr _ _ _ _ => F7
        rename News _ _ _ _ => N7
        refine Halt.on (append_K F7 N7 (.tail c1 (.head (fun p hp => (List.mem_cons.mp hp).elim (fun e => by rw [e]; exact Ne.symm c3) (hown1 p)))) ?_ (by rw [List.size_toArray, sizeLine_eq]; omega))
        intro h8 F8 N8
        rw [List.push_toArray] at N8
        clear F7 N7
        walk_at "m steps"
        · refine Halt.on (append_K F8 N8 (.tail c2 (.tail c3 (.head hown2))) ?_ (by rw [List.size_toArray, sizeLine_eq]; omega))
          intro h9 F9 N9
          rw [List.push_toArray] at N9
          clear F8 N8
          walk_at "m steps"
          refine hP _ <| lists_end F9 N9 ⟨rfl, rfl, _, _, _, _, _, _, rfl, d2, ?_, ?_⟩
          · rw [firsts_take hx, if_neg (by assumption)]; exact g1.snoc
          · rw [seconds_take hx, if_neg (by assumption)]; exact g2.snoc
        · refine hP _ <| lists_end F8 N8 ⟨rfl, rfl, _, _, _, _, _, _, rfl, d2, ?_, ?_⟩
          · rw [firsts_take hx, if_neg (by assumption)]; exact g1.snoc
          · rw [seconds_take hx, if_pos (by first | assumption | omega)]; exact g2
      · rename Fr _ _ _ _ => F7
        rename News _ _ _ _ => N7
        refine Halt.on (append_K F7 N7 (.tail c2 (.tail c3 (.head hown2))) ?_ (by rw [List.size_toArray, sizeLine_eq]; omega))
        intro h9 F9 N9
        rw [List.push_toArray] at N9
        clear F7 N7
        walk_at "m steps"
        refine hP _ <| lists_end F9 N9 ⟨rfl, rfl, _, _, _, _, _, _, rfl, d2, ?_, ?_⟩
        · rw [firsts_take hx, if_pos (by first | assumption | omega)]; exact g1
        · rw [seconds_take hx, if_neg (by first | assumption | omega)]; exact g2.snoc
      · exfalso; omega
  · clear F9 N9 N3
    rintro m₁ news₁ h4 tk4 ⟨e1, e2, o, v0, ws1, n1, ws2, n2, rfl, hdo, g1, g2⟩ F₁ N₁
    replace F₁ := frKnow (Str.ofString "first") F₁ e1
    replace F₁ := frKnow (Str.ofString "second") F₁ (by rw [if_neg (by decide)]; exact e2)
    have hvl := hi.length
    rw [List.take_of_length_le (by omega)] at g1 g2
    walk_at "m steps"
    rename_i D9 _ _ _ q9
    rename Fr _ _ _ _ => F9
    rename News _ _ _ _ => N9
    exact h _ _ D9 r1 r2 ws1 ws2 n1 n2 F9.keep (N9.fresh (.head _)) (N9.fresh (.tail _ (.tail _ (.head _)))) (N9.fresh (.tail _ (.tail _ (.tail _ (.head _))))) (Nat.ne_of_lt q2.1) (Nat.ne_of_gt q9.2.1) (Nat.ne_of_gt q9.2.2) (N9.get (.head _)) (N9.get (.tail _ (.tail _ (.head _)))) (N9.get (.tail _ (.tail _ (.tail _ (.head _))))) g1 g2
end

noncomputable def rowsL : List (Array UInt8) := [#[0], #[65], #[251], #[0, 0], #[0, 65], #[0, 251], #[65, 0], #[65, 65], #[65, 251], #[251, 0], #[251, 65], #[251, 251], #[0, 0, 0], #[0, 0, 65], #[0, 0, 251], #[0, 65, 0], #[0, 65, 65], #[0, 65, 251], #[0, 251, 0], #[0, 251, 65], #[0, 251, 251], #[65, 0, 0], #[65, 0, 65], #[65, 0, 251], #[65, 65, 0], #[65, 65, 65], #[65, 65, 251], #[65, 251, 0], #[65, 251, 65], #[65, 251, 251], #[251, 0, 0], #[251, 0, 65], #[251, 0, 251], #[251, 65, 0], #[251, 65, 65], #[251, 65, 251], #[251, 251, 0], #[251, 251, 65], #[251, 251, 251]]
theorem rows_lit : rows39 = rowsL := by decide +kernel
theorem row_cases {P : Array UInt8 → Prop} (h0 : P #[0]) (h1 : P #[65]) (h2 : P #[251]) (h3 : P #[0, 0]) (h4 : P #[0, 65]) (h5 : P #[0, 251]) (h6 : P #[65, 0]) (h7 : P #[65, 65]) (h8 : P #[65, 251]) (h9 : P #[251, 0]) (h10 : P #[251, 65]) (h11 : P #[251, 251]) (h12 : P #[0, 0, 0]) (h13 : P #[0, 0, 65]) (h14 : P #[0, 0, 251]) (h15 : P #[0, 65, 0]) (h16 : P #[0, 65, 65]) (h17 : P #[0, 65, 251]) (h18 : P #[0, 251, 0]) (h19 : P #[0, 251, 65]) (h20 : P #[0, 251, 251]) (h21 : P #[65, 0, 0]) (h22 : P #[65, 0, 65]) (h23 : P #[65, 0, 251]) (h24 : P #[65, 65, 0]) (h25 : P #[65, 65, 65]) (h26 : P #[65, 65, 251]) (h27 : P #[65, 251, 0]) (h28 : P #[65, 251, 65]) (h29 : P #[65, 251, 251]) (h30 : P #[251, 0, 0]) (h31 : P #[251, 0, 65]) (h32 : P #[251, 0, 251]) (h33 : P #[251, 65, 0]) (h34 : P #[251, 65, 65]) (h35 : P #[251, 65, 251]) (h36 : P #[251, 251, 0]) (h37 : P #[251, 251, 65]) (h38 : P #[251, 251, 251]) : ∀ b ∈ rows39, P b := by
  rw [rows_lit]
  exact List.forall_mem_cons.mpr ⟨h0, List.forall_mem_cons.mpr ⟨h1, List.forall_mem_cons.mpr ⟨h2, List.forall_mem_cons.mpr ⟨h3, List.forall_mem_cons.mpr ⟨h4, List.forall_mem_cons.mpr ⟨h5, List.forall_mem_cons.mpr ⟨h6, List.forall_mem_cons.mpr ⟨h7, List.forall_mem_cons.mpr ⟨h8, List.forall_mem_cons.mpr ⟨h9, List.forall_mem_cons.mpr ⟨h10, List.forall_mem_cons.mpr ⟨h11, List.forall_mem_cons.mpr ⟨h12, List.forall_mem_cons.mpr ⟨h13, List.forall_mem_cons.mpr ⟨h14, List.forall_mem_cons.mpr ⟨h15, List.forall_mem_cons.mpr ⟨h16, List.forall_mem_cons.mpr ⟨h17, List.forall_mem_cons.mpr ⟨h18, List.forall_mem_cons.mpr ⟨h19, List.forall_mem_cons.mpr ⟨h20, List.forall_mem_cons.mpr ⟨h21, List.forall_mem_cons.mpr ⟨h22, List.forall_mem_cons.mpr ⟨h23, List.forall_mem_cons.mpr ⟨h24, List.forall_mem_cons.mpr ⟨h25, List.forall_mem_cons.mpr ⟨h26, List.forall_mem_cons.mpr ⟨h27, List.forall_mem_cons.mpr ⟨h28, List.forall_mem_cons.mpr ⟨h29, List.forall_mem_cons.mpr ⟨h30, List.forall_mem_cons.mpr ⟨h31, List.forall_mem_cons.mpr ⟨h32, List.forall_mem_cons.mpr ⟨h33, List.forall_mem_cons.mpr ⟨h34, List.forall_mem_cons.mpr ⟨h35, List.forall_mem_cons.mpr ⟨h36, List.forall_mem_cons.mpr ⟨h37, List.forall_mem_cons.mpr ⟨h38, List.forall_mem_nil _⟩⟩⟩⟩⟩⟩⟩⟩⟩⟩⟩⟩⟩⟩⟩⟩⟩⟩⟩⟩⟩⟩⟩⟩⟩⟩⟩⟩⟩⟩⟩⟩⟩⟩⟩⟩⟩⟩⟩
theorem encode_tree : ∀ b ∈ rows39, ∀ t u, Builtin.«str.encode» ⟨[.str (txt b) t, .str (Str.ofString "ascii") u], []⟩ = (mkBytes (enc b) >>= fun v => ret v) := by
  refine row_cases ?_ ?_ ?_ ?_ ?_ ?_ ?_ ?_ ?_ ?_ ?_ ?_ ?_ ?_ ?_ ?_ ?_ ?_ ?_ ?_ ?_ ?_ ?_ ?_ ?_ ?_ ?_ ?_ ?_ ?_ ?_ ?_ ?_ ?_ ?_ ?_ ?_ ?_ ?_
  all_goals (intro t u; kernel_rfl)
theorem call_encode {prog : Program} {w : World} {A : Around} {E : Value → Shared → Prop} {s : Shared} {b : Array UInt8} {t u : Tok} {Q : Value → Shared → Prop} (hb : b ∈ rows39) (h : Q (.bytes (enc b) s.toks) { s with toks := s.toks + 1 }) :
    wpAny (model prog w) A (call (.builtin "str.encode") [.str (txt b) t, .str (Str.ofString "ascii") u]) Q E s := by
  refine call_b F.slot_str_encode (typeIs_str s _ _) F.entry_str_encode (F.args_str_encode_2 _ _) ?_
  rw [encode_tree b hb]
  obtain ⟨hp, g, dd, tk, os⟩ := s
  have hsz := enc_size b hb
  wp_walk
  rw [if_neg (by rw [hsz, sizeLine_eq]; decide)]
  wp_walk
  exact h

theorem b64val_range (c : Int) : 0 ≤ b64val c ∧ b64val c ≤ 64 := by
  unfold b64val
  (repeat' split) <;> omega
abbrev A2 := Int × Int × Int × List Int
noncomputable def a2bStep (st : A2) (c : Int) : A2 :=
  match st with
  | (q, l, p, out) =>
    if c = 61 then (q, l, p + 1, out)
    else if b64val c ≥ 64 then (q, l, p, out)
    else if q = 0 then (1, b64val c, 0, out)
    else if q = 1 then (2, Builtin.bitAnd (b64val c) 15, 0, out ++ [Builtin.bitOr (l * 2 ^ (2 : Nat)) ((b64val c).fdiv (2 ^ (4 : Nat)))])
    else if q = 2 then (3, Builtin.bitAnd (b64val c) 3, 0, out ++ [Builtin.bitOr (l * 2 ^ (4 : Nat)) ((b64val c).fdiv (2 ^ (2 : Nat)))])
    else (0, 0, 0, out ++ [Builtin.bitOr (l * 2 ^ (6 : Nat)) (b64val c)])
theorem a2b_pad {q l p c : Int} {out : List Int} (h : c = 61) : a2bStep (q, l, p, out) c = (q, l, p + 1, out) := by simp [a2bStep, h]
theorem a2b_skip {q l p c : Int} {out : List Int} (h : ¬c = 61) (h' : 64 ≤ b64val c) : a2bStep (q, l, p, out) c = (q, l, p, out) := by simp [a2bStep, h, h']
theorem a2b_0 {l p c : Int} {out : List Int} (h : ¬c = 61) (h' : ¬64 ≤ b64val c) : a2bStep (0, l, p, out) c = (1, b64val c, 0, out) := by simp [a2bStep, h, h']
theorem a2b_1 {l p c : Int} {out : List Int} (h : ¬c = 61) (h' : ¬64 ≤ b64val c) : a2bStep (1, l, p, out) c = (2, Builtin.bitAnd (b64val c) 15, 0, out ++ [Builtin.bitOr (l * 2 ^ (2 : Nat)) ((b64val c).fdiv (2 ^ (4 : Nat)))]) := by simp [a2bStep, h, h']
theorem a2b_2 {l p c : Int} {out : List Int} (h : ¬c = 61) (h' : ¬64 ≤ b64val c) : a2bStep (2, l, p, out) c = (3, Builtin.bitAnd (b64val c) 3, 0, out ++ [Builtin.bitOr (l * 2 ^ (4 : Nat)) ((b64val c).fdiv (2 ^ (2 : Nat)))]) := by simp [a2bStep, h, h']
theorem a2b_3 {l p c : Int} {out : List Int} (h : ¬c = 61) (h' : ¬64 ≤ b64val c) : a2bStep (3, l, p, out) c = (0, 0, 0, out ++ [Builtin.bitOr (l * 2 ^ (6 : Nat)) (b64val c)]) := by simp [a2bStep, h, h']
noncomputable def a2bFold (l : List Int) : A2 := l.foldl a2bStep (0, 0, 0, [])
theorem a2bFold_take {l : List Int} {i : Nat} {c : Int} (h : l[i]? = some c) : a2bFold (l.take (i + 1)) = a2bStep (a2bFold (l.take i)) c := by
  unfold a2bFold
  rw [take_snoc h, List.foldl_append]
  rfl
noncomputable def a2bEnd (b : Array UInt8) : A2 := a2bFold (KBw.bInts (enc b))
theorem a2b_q : ∀ b ∈ rows39, (a2bEnd b).1 ≠ 1 ∧ ((a2bEnd b).1 = 0 ∨ (a2bEnd b).1 + (a2bEnd b).2.2.1 ≥ 4) := by decide +kernel
theorem a2b_oct : ∀ b ∈ rows39, ∀ n ∈ (a2bEnd b).2.2.2, 0 ≤ n ∧ n < 256 := by decide +kernel
theorem a2b_out : ∀ b ∈ rows39, byteArr (a2bEnd b).2.2.2 = b := by decide +kernel
inductive A2bJ (r : Addr) (b : Array UInt8) (i : Nat) (m : Str → Option Value) (nw : List (Addr × Obj)) : Prop
  | mk (q l p ii : Int) (t1 t2 t3 t4 : Tok) (out : List Int) (ws : List Value) (n : Nat) (e1 : m (Str.ofString "quad_pos") = some (.int q t1)) (e2 : m (Str.ofString "leftchar") = some (.int l t2)) (e3 : m (Str.ofString "pads") = some (.int p t3)) (e4 : m (Str.ofString "i") = some (.int ii t4)) (e5 : m (Str.ofString "out") = some (.ref r)) (e6 : m (Str.ofString "strict_mode") = some (.bool false)) (hn : nw = [(r, listOf ws.toArray n)]) (hw : IntsAre ws out) (hst : (q, l, p, out) = a2bFold ((KBw.bInts (enc b)).take i)) (hq : q = 0 ∨ q = 1 ∨ q = 2 ∨ q = 3) (g1 : 0 ≤ l) (g2 : l < 64) (ho : out.length ≤ i) (g3 : 0 ≤ p) (g4 : p ≤ i) : A2bJ r b i m nw
theorem a2b_q3 {q : Int} (hq : q = 0 ∨ q = 1 ∨ q = 2 ∨ q = 3) (h0 : ¬q = 0) (h1 : ¬q = 1) (h2 : ¬q = 2) : q = 3 := ((hq.resolve_left h0).resolve_left h1).resolve_left h2
theorem a2b_spec {w : World} {mean : ExcName → Option Value} {mg mb : Str → Option Value} {s : Shared} {Q E : Value → Shared → Prop} {b : Array UInt8} {t : Tok}
    (X : (hd.heap_39 w.params).In s.heap) (T : Tp mean mg mb s.heap) (hb : b ∈ rows39)
    (h : ∀ h' tk t', Kp s.heap h' → Q (.bytes b t') { s with heap := h', toks := tk }) :
    wpAny (Md w) (lv 890 8900) (call (.ref 100) [.bytes (enc b) t] [(Str.ofString "strict_mode", .bool false)]) Q E s := by
  w_on
  k_dflt (refine' enterP (binds := [(Str.ofString "data", .bytes (enc b) t), (Str.ofString "strict_mode", .bool false)]) X T ?ho ?hcd ?hroom ?hb ?hl ?c1 ?c2 ?c3 ?c4 ?_; walk_at "m enter")
  intro L h₁ F N
  walk_at "m steps"
  refine Halt.on (lower (abuffer_spec (X.keeps F.keep) (T.keeps F.keep) ?_) rfl (Nat.le_of_ble_eq_true rfl) (Nat.le_of_ble_eq_true rfl))
  intro h2 tk2 k2
  replace F := F.keeps k2
  replace N := N.grown k2
  walk_at "m steps"
  rename Fr _ _ _ _ => F2
  rename News _ _ _ _ => N2
  refine Halt.on (lower (truth_spec (X.keeps F2.keep) (T.keeps F2.keep) ?_) rfl (Nat.le_of_ble_eq_true rfl) (Nat.le_of_ble_eq_true rfl))
  intro h3 tk3 k3
  replace F2 := F2.keeps k3
  replace N2 := N2.grown k3
  walk_at "m steps"
  rename Fr _ _ _ _ => F3
  rename News _ _ _ _ => N3
  rename_i r _ _ _ _ _ _ _
  refine Halt.on (for_bytes (A2bJ r b)
    rfl F3 N3 ⟨0, 0, 0, 0, _, _, _, _, [], [], 0, rfl, rfl, rfl, rfl, rfl, rfl, rfl, .nil, rfl, .inl rfl, by decide, by decide, by decide, by decide, by decide⟩ ?_ ?_)
  · clear F3 N3
    intro i c tc m₁ news₁ h4 tk4 own hi _ hoff hJ F₁ N₁
    refine absQ fun st tk4 P hP => ?_
    obtain ⟨q, l, p, ii, t1, t2, t3, t4, out, ws, n, e1, e2, e3, e4, e5, e6, rfl, hw, hst, hq, g1, g2, hout, g3, g4⟩ := hJ
    replace F₁ := frKnow (Str.ofString "quad_pos") F₁ (by rw [if_neg (by decide)]; exact e1)
    replace F₁ := frKnow (Str.ofString "leftchar") F₁ (by rw [if_neg (by decide), if_neg (by decide)]; exact e2)
    replace F₁ := frKnow (Str.ofString "pads") F₁ (by rw [if_neg (by decide), if_neg (by decide), if_neg (by decide)]; exact e3)
    replace F₁ := frKnow (Str.ofString "i") F₁ (by rw [if_neg (by decide), if_neg (by decide), if_neg (by decide), if_neg (by decide)]; exact e4)
    replace F₁ := frKnow (Str.ofString "out") F₁ (by rw [if_neg (by decide), if_neg (by decide), if_neg (by decide), if_neg (by decide), if_neg (by decide)]; exact e5)
    replace F₁ := frKnow (Str.ofString "strict_mode") F₁ (by rw [if_neg (by decide), if_neg (by decide), if_neg (by decide), if_neg (by decide), if_neg (by decide), if_neg (by decide)]; exact e6)
    replace N₁ := newsFirst N₁
    have hown : ∀ p ∈ own, p.1 ≠ r := hoff.ne (.head _)
    have hil : i < 4 := by have := (List.getElem?_eq_some_iff.mp hi).1; have h4 := enc_size b hb; simp at this; omega
    have hwl : ws.length ≤ 100 := by have := hw.length; omega
    have hci : (KBw.bInts (enc b))[i]? = some ((c.toNat : Nat) : Int) := by simp [KBw.bInts, hi]
    have gc : (0 : Int) ≤ (c.toNat : Int) ∧ (c.toNat : Int) < 256 := ⟨by omega, by have := c.toNat_lt; omega⟩
    generalize (c.toNat : Int) = cc at F₁ gc hci
    have hnx := a2bFold_take hci
    rw [← hst] at hnx
    have hv := b64val_range cc
    have h15 := bitAnd_range (b64val cc) (y := 15) (by decide)
    have h3' := bitAnd_range (b64val cc) (y := 3) (by decide)
    have ho1 : out.length ≤ i + 1 := Nat.le_succ_of_le hout
    have ho2 : ∀ z : Int, (out ++ [z]).length ≤ i + 1 := fun z => by rw [List.length_append]; exact Nat.succ_le_succ hout
    have g4s : p + 1 ≤ ((i + 1 : Nat) : Int) := by rw [Int.natCast_add]; exact Int.add_le_add_right g4 1
    have g4p : p ≤ ((i + 1 : Nat) : Int) := Int.le_trans (Int.le_add_of_nonneg_right (by decide)) g4s
    have g5 : (0 : Int) ≤ ((i + 1 : Nat) : Int) := Int.natCast_nonneg _
    have l15 : Builtin.bitAnd (b64val cc) 15 < 64 := Int.lt_of_le_of_lt h15.2 (by decide)
    have l3 : Builtin.bitAnd (b64val cc) 3 < 64 := Int.lt_of_le_of_lt h3'.2 (by decide)
    have hsk := a2b_skip (q := q) (l := l) (p := p) (c := cc) (out := out)
    walk_at "n steps"
    any_goals (rename Fr _ _ _ _ => F9; rename News _ _ _ _ => N9; first | exact hP _ _ _ <| invEnd1 F9 N9 ⟨_, _, _, _, _, _, _, _, _, _, _, rfl, rfl, rfl, rfl, rfl, rfl, rfl, hw, hnx.symm ▸ (a2b_pad (by assumption)).symm, hq, g1, g2, ho1, Int.le_trans g3 (Int.le_add_of_nonneg_right (by decide)), g4s⟩)
    refine Halt.on (lower (b64v_spec (X.keeps F₁.keep) (T.keeps F₁.keep) ?_) rfl (Nat.le_of_ble_eq_true rfl) (Nat.le_of_ble_eq_true rfl))
    intro h5 tk5 t5 k5
    replace F₁ := F₁.keeps k5
    replace N₁ := N₁.grown k5
    have hst0 := a2b_0 (l := l) (p := p) (c := cc) (out := out)
    have hst1 := a2b_1 (l := l) (p := p) (c := cc) (out := out)
    have hst2 := a2b_2 (l := l) (p := p) (c := cc) (out := out)
    have hst3 := a2b_3 (l := l) (p := p) (c := cc) (out := out)
    generalize b64val cc = bv at hv h15 h3' hst0 hst1 hst2 hst3 l15 l3 hsk ⊢
    walk_at "n steps"
    all_goals (rename Fr _ _ _ _ => F9; rename News _ _ _ _ => N9; first
      | exact hP _ _ _ <| invEnd1 F9 N9 ⟨_, _, _, _, _, _, _, _, _, _, _, rfl, rfl, rfl, rfl, rfl, rfl, rfl, hw, hnx.symm ▸ (hsk (by assumption) (by assumption)).symm, hq, g1, g2, ho1, g3, g4p⟩
      | (obtain rfl : q = 0 := by assumption
         exact hP _ _ _ <| invEnd1 F9 N9 ⟨_, _, _, _, _, _, _, _, _, _, _, rfl, rfl, rfl, rfl, rfl, rfl, rfl, hw, hnx.symm ▸ (hst0 (by assumption) (by assumption)).symm, .inr (.inl rfl), hv.1, Int.not_le.mp (by assumption), ho1, Int.le_refl 0, g5⟩)
      | (obtain rfl : q = 1 := by assumption
         exact hP _ _ _ <| invEnd1 F9 N9 ⟨_, _, _, _, _, _, _, _, _, _, _, rfl, rfl, rfl, rfl, rfl, rfl, rfl, intsSnoc hw, hnx.symm ▸ (hst1 (by assumption) (by assumption)).symm, .inr (.inr (.inl rfl)), h15.1, l15, ho2 _, Int.le_refl 0, g5⟩)
      | (obtain rfl : q = 2 := by assumption
         exact hP _ _ _ <| invEnd1 F9 N9 ⟨_, _, _, _, _, _, _, _, _, _, _, rfl, rfl, rfl, rfl, rfl, rfl, rfl, intsSnoc hw, hnx.symm ▸ (hst2 (by assumption) (by assumption)).symm, .inr (.inr (.inr rfl)), h3'.1, l3, ho2 _, Int.le_refl 0, g5⟩)
      | (obtain rfl : q = 3 := a2b_q3 hq (by assumption) (by assumption) (by assumption)
         exact hP _ _ _ <| invEnd1 F9 N9 ⟨_, _, _, _, _, _, _, _, _, _, _, rfl, rfl, rfl, rfl, rfl, rfl, rfl, intsSnoc hw, hnx.symm ▸ (hst3 (by assumption) (by assumption)).symm, .inl rfl, Int.le_refl 0, by decide, ho2 _, Int.le_refl 0, g5⟩))
  · clear F3 N3
    rintro m₁ news₁ h4 tk4 ⟨q, l, p, ii, t1, t2, t3, t4, out, ws, n, e1, e2, e3, e4, e5, e6, rfl, hw, hst, hq, g1, g2, hout, g3, g4⟩ F₁ N₁
    replace F₁ := frKnow (Str.ofString "quad_pos") F₁ e1
    replace F₁ := frKnow (Str.ofString "pads") F₁ (by rw [if_neg (by decide)]; exact e3)
    replace F₁ := frKnow (Str.ofString "out") F₁ (by rw [if_neg (by decide), if_neg (by decide)]; exact e5)
    have hst' : (q, l, p, out) = a2bEnd b := by
      rw [hst, List.take_of_length_le (by simp [KBw.bInts])]; rfl
    have hqq := a2b_q b hb
    have hoc := a2b_oct b hb
    have hou := a2b_out b hb
    rw [← hst'] at hqq hoc hou
    dsimp only at hqq hoc hou
    have h4 := enc_size b hb
    have hwl : ws.length ≤ 100 := by have := hw.length; simp at hout; omega
    clear hst hst'
    rcases hq with rfl | rfl | rfl | rfl
    · walk_at "n steps"
      rename Fr _ _ _ _ => F9
      rw [hou]
      exact h _ _ _ F9.keep
    · omega
    · have hp : ¬(2 + p < 4) := by omega
      walk_at "n steps"
      rename Fr _ _ _ _ => F9
      rw [hou]
      exact h _ _ _ F9.keep
    · have hp : ¬(3 + p < 4) := by omega
      walk_at "n steps"
      rename Fr _ _ _ _ => F9
      rw [hou]
      exact h _ _ _ F9.keep

theorem bfd_spec {w : World} {mean : ExcName → Option Value} {mg mb : Str → Option Value} {s : Shared} {Q E : Value → Shared → Prop} {b : Array UInt8} {t : Tok}
    (X : (hd.heap_39 w.params).In s.heap) (T : Tp mean mg mb s.heap) (hb : b ∈ rows39)
    (h : ∀ h' tk t', Kp s.heap h' → Q (.bytes (enc b) t') { s with heap := h', toks := tk }) :
    wpAny (Md w) (lv 890 8900) (call (.ref 51) [.str (txt b) t]) Q E s := by
  w_on
  k_dflt (refine' enterP (binds := [(Str.ofString "s", .str (txt b) t)]) X T ?ho ?hcd ?hroom ?hb ?hl ?c1 ?c2 ?c3 ?c4 ?_; walk_at "m enter")
  intro L h₁ F N
  walk_at "m steps"
  refine method_encode ?_
  walk_at "m steps"
  refine call_encode hb ?_
  walk_at "m steps"
  exact h _ _ _ F.keep
theorem b64dec_spec {w : World} {mean : ExcName → Option Value} {mg mb : Str → Option Value} {s : Shared} {Q E : Value → Shared → Prop} {b : Array UInt8} {t : Tok}
    (X : (hd.heap_39 w.params).In s.heap) (T : Tp mean mg mb s.heap) (hb : b ∈ rows39)
    (h : ∀ h' tk t', Kp s.heap h' → Q (.bytes b t') { s with heap := h', toks := tk }) :
    wpAny (Md w) (lv 880 8800) (call (.ref 124) [.str (txt b) t]) Q E s := by
  w_on
  k_dflt (refine' enterP (binds := [(Str.ofString "s", .str (txt b) t), (Str.ofString "altchars", .none), (Str.ofString "validate", .bool false)]) X T ?ho ?hcd ?hroom ?hb ?hl ?c1 ?c2 ?c3 ?c4 ?_; walk_at "m enter")
  intro L h₁ F N
  walk_at "m steps"
  refine Halt.on (lower (bfd_spec (X.keeps F.keep) (T.keeps F.keep) hb ?_) rfl (Nat.le_of_ble_eq_true rfl) (Nat.le_of_ble_eq_true rfl))
  intro h2 tk2 t2 k2
  replace F := F.keeps k2
  replace N := N.grown k2
  walk_at "m steps"
  rename Fr _ _ _ _ => F2
  rename News _ _ _ _ => N2
  refine Halt.on (lower (a2b_spec (X.keeps F2.keep) (T.keeps F2.keep) hb ?_) rfl (Nat.le_of_ble_eq_true rfl) (Nat.le_of_ble_eq_true rfl))
  intro h3 tk3 t3 k3
  walk_at "m steps"
  exact h _ _ _ (Kp.trans F2.keep k3)

/-- the order of texts -/
def SLt (x y : Str) : Prop := x.cps.toList < y.cps.toList
def SLe (x y : Str) : Prop := ¬SLt y x
theorem SLe.refl (x : Str) : SLe x x := fun h => List.lt_irrefl _ h
theorem SLt.le {x y : Str} (h : SLt x y) : SLe x y := fun h' => List.lt_asymm h h'
theorem SLe.trans {x y z : Str} (h : SLe x y) (h' : SLe y z) : SLe x z := List.le_trans (show x.cps.toList ≤ y.cps.toList from h) (show y.cps.toList ≤ z.cps.toList from h')
theorem SLe.antisymm {x y : Str} (h : SLe x y) (h' : SLe y x) : x = y := by
  have e : x.cps.toList = y.cps.toList := List.le_antisymm (show x.cps.toList ≤ y.cps.toList from h) (show y.cps.toList ≤ x.cps.toList from h')
  cases x; cases y
  simp only [Str.mk.injEq]
  exact Array.toList_inj.mp e
theorem SLe.total (x y : Str) : SLe x y ∨ SLe y x := List.le_total (x.cps.toList) (y.cps.toList)
abbrev sat (a : List Str) (i : Nat) : Str := a.getD i Str.empty
theorem sat_set {a : List Str} {k i : Nat} {v : Str} (hk : k < a.length) : sat (a.set k v) i = if i = k then v else sat a i := by
  unfold sat
  rw [List.getD_eq_getElem?_getD, List.getElem?_set]
  by_cases e : k = i
  · subst e; simp [hk]
  · rw [if_neg e, if_neg (Ne.symm e), List.getD_eq_getElem?_getD]
/-- a list that is a heap -/
def Hp (a : List Str) : Prop := ∀ i, 0 < i → i < a.length → SLe (sat a ((i - 1) / 2)) (sat a i)
/-- a heap but for the place p, where x is to come, going up -/
def SInv (a : List Str) (p : Nat) (x : Str) : Prop := (∀ i, 0 < i → i < a.length → i ≠ p → (i - 1) / 2 ≠ p → SLe (sat a ((i - 1) / 2)) (sat a i)) ∧
  ∀ i, 0 < i → i < a.length → (i - 1) / 2 = p → SLe x (sat a i) ∧ (0 < p → SLe (sat a ((p - 1) / 2)) (sat a i))
theorem SInv.step {a : List Str} {j : Nat} {x : Str} (h : SInv a (j + 1) x) (hj : j + 1 < a.length) (hx : SLt x (sat a (j / 2))) : SInv (a.set (j + 1) (sat a (j / 2))) (j / 2) x := by
  have hne : j / 2 ≠ j + 1 := by omega
  have hup : ∀ i, 0 < i → i < a.length → (i - 1) / 2 = j / 2 → i ≠ j + 1 → SLe (sat a (j / 2)) (sat a i) := fun i h1 h2 h3 h4 => by
    have := h.1 i h1 h2 h4 (by omega)
    rwa [h3] at this
  refine ⟨fun i h1 h2 h3 h4 => ?_, fun i h1 h2 h3 => ?_⟩
  · rw [List.length_set] at h2
    rw [sat_set hj, sat_set hj]
    by_cases e : i = j + 1
    · subst e; exact absurd (by simp) h4
    · rw [if_neg e]
      by_cases e' : (i - 1) / 2 = j + 1
      · rw [if_pos e']
        have := (h.2 i h1 h2 e').2 (by omega)
        simpa using this
      · rw [if_neg e']
        exact h.1 i h1 h2 e e'
  · rw [List.length_set] at h2
    rw [sat_set hj]
    by_cases e : i = j + 1
    · rw [if_pos e]
      refine ⟨hx.le, fun hp => ?_⟩
      rw [sat_set hj, if_neg (by omega)]
      exact h.1 (j / 2) hp (by omega) hne (by omega)
    · rw [if_neg e]
      have h5 := hup i h1 h2 h3 e
      refine ⟨hx.le.trans h5, fun hp => ?_⟩
      rw [sat_set hj, if_neg (by omega)]
      exact (h.1 (j / 2) hp (by omega) hne (by omega)).trans h5
theorem SInv.end0 {a : List Str} {x : Str} (h : SInv a 0 x) (hj : 0 < a.length) : Hp (a.set 0 x) := fun i h1 h2 => by
  rw [List.length_set] at h2
  rw [sat_set hj, sat_set hj, if_neg (Nat.ne_of_gt h1)]
  by_cases e : (i - 1) / 2 = 0
  · rw [if_pos e]; exact (h.2 i h1 h2 e).1
  · rw [if_neg e]; exact h.1 i h1 h2 (Nat.ne_of_gt h1) e
theorem SInv.endS {a : List Str} {j : Nat} {x : Str} (h : SInv a (j + 1) x) (hj : j + 1 < a.length) (hx : ¬SLt x (sat a (j / 2))) : Hp (a.set (j + 1) x) := fun i h1 h2 => by
  rw [List.length_set] at h2
  rw [sat_set hj, sat_set hj]
  by_cases e : i = j + 1
  · subst e
    rw [if_pos rfl, if_neg (by omega)]
    exact hx
  · rw [if_neg e]
    by_cases e' : (i - 1) / 2 = j + 1
    · rw [if_pos e']; exact (h.2 i h1 h2 e').1
    · rw [if_neg e']; exact h.1 i h1 h2 e e'
theorem perm_move {a : List Str} {p q : Nat} {x : Str} (hp : p < a.length) (hq : q < a.length) (hne : q ≠ p) : ((a.set p (sat a q)).set q x).Perm (a.set p x) := by
  have h1 : p < (a.set p x).length := by simpa using hp
  have h2 : q < (a.set p x).length := by simpa using hq
  have := List.set_set_perm h1 h2
  have e1 : (a.set p x)[q] = sat a q := by
    rw [List.getElem_set]
    simp [Ne.symm hne, sat, hq]
  have e2 : (a.set p x)[p] = x := by simp
  rw [e1, e2, List.set_set] at this
  exact this
/-- a heap but for the place p, where nothing that counts lies, going down -/
def UInv (a : List Str) (p : Nat) : Prop := (∀ i, 0 < i → i < a.length → i ≠ p → (i - 1) / 2 ≠ p → SLe (sat a ((i - 1) / 2)) (sat a i)) ∧
  (0 < p → ∀ i, 0 < i → i < a.length → (i - 1) / 2 = p → SLe (sat a ((p - 1) / 2)) (sat a i))
theorem UInv.step {a : List Str} {p c : Nat} (h : UInv a p) (hc0 : 0 < c) (hc : c < a.length) (hcp : (c - 1) / 2 = p) (hmin : ∀ i, 0 < i → i < a.length → (i - 1) / 2 = p → SLe (sat a c) (sat a i)) : UInv (a.set p (sat a c)) c := by
  have hp : p < a.length := by omega
  refine ⟨fun i h1 h2 h3 h4 => ?_, fun _ i h1 h2 h3 => ?_⟩
  · rw [List.length_set] at h2
    rw [sat_set hp, sat_set hp]
    by_cases e : i = p
    · subst e
      rw [if_pos rfl, if_neg (by omega)]
      exact h.2 h1 c hc0 hc hcp
    · rw [if_neg e]
      by_cases e' : (i - 1) / 2 = p
      · rw [if_pos e']; exact hmin i h1 h2 e'
      · rw [if_neg e']; exact h.1 i h1 h2 e e'
  · rw [List.length_set] at h2
    rw [sat_set hp, sat_set hp, if_pos hcp, if_neg (by omega)]
    have := h.1 i h1 h2 (by omega) (by omega)
    rwa [h3] at this
theorem UInv.leaf {a : List Str} {p : Nat} {x : Str} (h : UInv a p) (hp : p < a.length) (hl : a.length ≤ 2 * p + 1) : SInv (a.set p x) p x := by
  refine ⟨fun i h1 h2 h3 h4 => ?_, fun i h1 h2 h3 => ?_⟩
  · rw [List.length_set] at h2
    rw [sat_set hp, sat_set hp, if_neg h3, if_neg h4]
    exact h.1 i h1 h2 h3 h4
  · rw [List.length_set] at h2
    omega
theorem Hp.root {a : List Str} (h : Hp a) : ∀ i, i < a.length → SLe (sat a 0) (sat a i) := by
  intro i
  induction i using Nat.strongRecOn with
  | _ i ih =>
    intro hi
    by_cases e : i = 0
    · subst e; exact SLe.refl _
    · exact (ih ((i - 1) / 2) (by omega) (by omega)).trans (h i (by omega) hi)
theorem Hp.set0 {a : List Str} {x : Str} (h : Hp a) (ha : 0 < a.length) : UInv (a.set 0 x) 0 := by
  refine ⟨fun i h1 h2 h3 h4 => ?_, fun h0 => absurd h0 (Nat.lt_irrefl _)⟩
  rw [List.length_set] at h2
  rw [sat_set ha, sat_set ha, if_neg h3, if_neg h4]
  exact h i h1 h2
theorem sat_app {a : List Str} {x : Str} {i : Nat} (h : i < a.length) : sat (a ++ [x]) i = sat a i := by
  unfold sat; rw [List.getD_eq_getElem?_getD, List.getD_eq_getElem?_getD, List.getElem?_append_left h]
theorem Hp.init {a : List Str} {x : Str} (h : Hp (a ++ [x])) : Hp a := fun i h1 h2 => by
  have := h i h1 (by rw [List.length_append]; omega)
  rwa [sat_app h2, sat_app (by omega)] at this
theorem Hp.snoc {a : List Str} {x : Str} (h : Hp a) : SInv (a ++ [x]) a.length x := by
  refine ⟨fun i h1 h2 h3 h4 => ?_, fun i h1 h2 h3 => ?_⟩
  · rw [List.length_append, List.length_singleton] at h2
    have h5 : i < a.length := by omega
    rw [sat_app h5, sat_app (by omega)]
    exact h i h1 h5
  · rw [List.length_append, List.length_singleton] at h2
    omega
theorem sat_snoc {a : List Str} {x : Str} : sat (a ++ [x]) a.length = x := by
  unfold sat; rw [List.getD_eq_getElem?_getD]; simp

theorem setAt_first {prog : Program} {w : World} {A : Around} {E : Value → Shared → Prop} {s : Shared} {h₀ : Heap} {L r : Addr} {m : Str → Option Value} {ws : List Value} {n k : Nat} {v : Value} {t : Tok} {own : List (Addr × Obj)} {Q : Unit → Shared → Prop}
    (F : Fr h₀ L s.heap m) (N : News h₀ L s.heap ((r, listOf ws.toArray n) :: own)) (ho : ∀ p ∈ own, p.1 ≠ r) (hk : k < ws.length) (hz : ws.length ≤ 10000)
    (h : ∀ h', Fr h₀ L h' m → News h₀ L h' ((r, listOf (ws.set k v).toArray n) :: own) → Q () { s with heap := h' }) :
    wpAny (model prog w) A (setItem (.ref r) (.int ((k : Nat) : Int) t) v) Q E s := by
  have z := N (r, listOf ws.toArray n) (.head _)
  refine ki_setAt z.1 (Int.natCast_nonneg _) (by omega) (by rw [List.size_toArray]; omega) (h _ (F.change (Heap.SameBut.update ..) z.2.1 z.2.2) ?_)
  refine ki_turn (pre := []) _ N (fun _ hp => nomatch hp) ho ?_ ?_
  · rw [Int.toNat_natCast]; simp
  · rw [if_pos (by simp)]
theorem strsSet {vs : List Value} {ys : List Str} {y : Str} {t : Tok} (h : StrsAre vs ys) : ∀ k, StrsAre (vs.set k (.str y t)) (ys.set k y) := by
  induction h with
  | nil => intro k; exact .nil
  | cons a u hh ih =>
    intro k
    cases k with
    | zero => exact .cons _ _ hh
    | succ k => exact .cons _ _ (ih k)
theorem strsLen {vs : List Value} {ys : List Str} (h : StrsAre vs ys) : vs.length = ys.length := by
  induction h with
  | nil => rfl
  | cons _ _ _ ih => simp [ih]
theorem half_eq (j : Nat) : (((j + 1 : Nat) : Int) - 1).fdiv (2 ^ Int.toNat 1) = ((j / 2 : Nat) : Int) := by
  have e : (2 : Int) ^ Int.toNat 1 = 2 := rfl
  rw [e, Int.fdiv_eq_ediv_of_nonneg _ (by decide)]
  omega
theorem whileV {prog : Program} {w : World} {A : Around} {E : Value → Shared → Prop} {Q : Flow → Shared → Prop} {s : Shared} {env : Env} {h₀ : Heap} {L : Addr} {test : Expr} {body : List Stmt} {pos : Pos} {m : Str → Option Value} {news : List (Addr × Obj)} (J : Nat → (Str → Option Value) → List (Addr × Obj) → Prop) {n₀ : Nat}
    (F : Fr h₀ L s.heap m) (N : News h₀ L s.heap news) (hJ : J n₀ m news)
    (turn : ∀ n m₁ news₁ h₁ tk₁ (st : Shared) (P : Flow → Shared → Prop) (P2 : Shared → Prop), Fr h₀ L h₁ m₁ → News h₀ L h₁ news₁ → J n m₁ news₁ →
      (∀ h' tk m₂ news₂ n', Fr h₀ L h' m₂ → News h₀ L h' news₂ → n' < n → J n' m₂ news₂ → P .next { st with heap := h', toks := tk } ∧ P .cont { st with heap := h', toks := tk }) →
      (∀ h' tk, Q .next { s with heap := h', toks := tk } → P .brk { st with heap := h', toks := tk } ∧ P2 { st with heap := h', toks := tk }) →
      wpAny (model prog w) A (isTrue test env (eval test env)) (fun b s₂ => if b = true then wpAny (model prog w) A (execs body env) P E s₂ else P2 s₂) E { st with heap := h₁, toks := tk₁ })
    (hE : PassesOwn (model prog w) A env E := by passes_own) :
    wpAny (model prog w) A (exec (.While test body [] pos) env) Q E s :=
  While_inv2 J F N hJ (fun n m₁ news₁ h₁ tk₁ F₁ N₁ hj => turn n m₁ news₁ h₁ tk₁ s _ (fun s₂ => Q .next s₂) F₁ N₁ hj (fun h' tk m₂ news₂ n' f g l j => ⟨⟨h', tk, m₂, news₂, n', rfl, f, g, l, j⟩, h', tk, m₂, news₂, n', rfl, f, g, l, j⟩) (fun _ _ q => ⟨q, q⟩)) hE
inductive DownJ (r : Addr) (n : Nat) (xs : List Str) (t0 t' : Tok) (x : Str) (k : Nat) (m : Str → Option Value) (nw : List (Addr × Obj)) : Prop
  | mk (ys : List Value) (a : List Str) (tpp : Tok) (e1 : m (Str.ofString "heap") = some (.ref r)) (e2 : m (Str.ofString "startpos") = some (.int 0 t0)) (e3 : m (Str.ofString "pos") = some (.int ((k : Nat) : Int) tpp)) (e4 : m (Str.ofString "newitem") = some (.str x t')) (hn : nw = [(r, listOf ys.toArray n)]) (hy : StrsAre ys a) (hal : a.length = xs.length) (hk : k < a.length) (hs : SInv a k x) (hpm : (a.set k x).Perm xs) : DownJ r n xs t0 t' x k m nw
inductive UpJ (r : Addr) (n : Nat) (xs : List Str) (tp t' : Tok) (x : Str) (k : Nat) (m : Str → Option Value) (nw : List (Addr × Obj)) : Prop
  | mk (ys : List Value) (a : List Str) (p : Nat) (te t1 t2 : Tok) (e1 : m (Str.ofString "heap") = some (.ref r)) (e2 : m (Str.ofString "startpos") = some (.int 0 tp)) (e3 : m (Str.ofString "pos") = some (.int ((p : Nat) : Int) t1)) (e4 : m (Str.ofString "childpos") = some (.int (2 * ((p : Nat) : Int) + 1) t2)) (e5 : m (Str.ofString "endpos") = some (.int ((xs.length : Nat) : Int) te)) (e6 : m (Str.ofString "newitem") = some (.str x t')) (hn : nw = [(r, listOf ys.toArray n)]) (hy : StrsAre ys a) (hal : a.length = xs.length) (hk : p < a.length) (hs : UInv a p) (hpm : (a.set p x).Perm xs) (hkp : k = xs.length - p) : UpJ r n xs tp t' x k m nw
section
local macro_rules | `(tactic| walk_at "exec While") => `(tactic| refine halt_of ?_)
local macro_rules | `(tactic| walk_at "exec While Compare cons nil") => `(tactic| refine halt_of ?_)
theorem siftdown_spec {w : World} {mean : ExcName → Option Value} {mg mb : Str → Option Value} {s : Shared} {Q E : Value → Shared → Prop} {r : Addr} {ws : List Value} {n : Nat} {xs : List Str} {pos : Nat} {t0 tp : Tok}
    (X : (hd.heap_39 w.params).In (TI.gone s.heap [r])) (T : Tp mean mg mb (TI.gone s.heap [r])) (hr : s.heap.get? r = some (listOf ws.toArray n)) (hx : StrsAre ws xs) (hz : xs.length ≤ 100) (hp : pos < xs.length) (hi : SInv xs pos (sat xs pos))
    (h : ∀ h' tk (ws' : List Value) xs', Kp (TI.gone s.heap [r]) h' → h'.get? r = some (listOf ws'.toArray n) → StrsAre ws' xs' → Hp xs' → xs'.Perm xs → Q .none { s with heap := h', toks := tk }) :
    wpAny (Md w) (lv 900 9000) (call (.ref 145) [.ref r, .int 0 t0, .int ((pos : Nat) : Int) tp]) Q E s := by
  w_on
  k_dflt (refine' enterF (frs := [(r, listOf ws.toArray n)]) (binds := [(Str.ofString "heap", .ref r), (Str.ofString "startpos", .int 0 t0), (Str.ofString "pos", .int ((pos : Nat) : Int) tp)]) X T ?hfr ?ho ?hcd ?hroom ?hb ?hl ?c1 ?c2 ?c3 ?c4 ?_; (case hfr => (intro p hp; rw [List.mem_singleton.mp hp]; exact hr)); walk_at "m enter")
  intro L h₁ F N
  refine absF ?_
  walk_at "m steps"
  rename Fr _ _ _ _ => F1
  rename News _ _ _ _ => N1
  rename_i hx t' _
  have hself : xs.set pos (sat xs pos) = xs := by
    unfold sat; rw [List.getD_eq_getElem?_getD, List.getElem?_eq_getElem hp]; simp
  refine Halt.on (whileV (DownJ r n xs t0 t' (sat xs pos)) F1 N1 ⟨ws, xs, _, rfl, rfl, rfl, rfl, rfl, hx, rfl, hp, hi, by rw [hself]⟩ ?_ (by passes_own))
  clear F1 N1 hx
  intro k m₁ news₁ h2 tk2 st P P2 F₁ N₁ hJ hP hP2
  obtain ⟨ys, a, tpp, e1, e2, e3, e4, rfl, hy, hal, hk, hs, hpm⟩ := hJ
  replace F₁ := frKnow (Str.ofString "heap") F₁ e1
  replace F₁ := frKnow (Str.ofString "startpos") F₁ (by rw [if_neg (by decide)]; exact e2)
  replace F₁ := frKnow (Str.ofString "pos") F₁ (by rw [if_neg (by decide), if_neg (by decide)]; exact e3)
  replace F₁ := frKnow (Str.ofString "newitem") F₁ (by rw [if_neg (by decide), if_neg (by decide), if_neg (by decide)]; exact e4)
  clear hi hself
  generalize sat xs pos = x at F₁ e4 hs hpm hP
  have hyl := strsLen hy
  cases k with
  | zero =>
    walk_at "m steps"
    refine (hP2 _ _ ?_).2
    walk_at "m steps"
    refine setAt_first F₁ N₁ (fun _ hp => nomatch hp) (by omega) (by omega) ?_
    intro h3 F3 N3
    walk_at "m steps"
    exact h _ _ _ _ F3.keep (N3.get (.head _)) (strsSet hy 0) (hs.end0 hk) hpm
  | succ j =>
    have hh := half_eq j
    have hlt : j / 2 < a.length := by omega
    walk_at "m steps"
    · rename_i hc
      rename StrsAre _ _ => hy
      rename Fr _ _ _ _ => F2
      rename News _ _ _ _ => N2
      rw [hh, Int.toNat_natCast] at hc
      refine setAt_first F2 N2 (fun _ hp => nomatch hp) (by omega) (by omega) ?_
      intro h3 F3 N3
      walk_at "m steps"
      rename Fr _ _ _ _ => F4
      rename News _ _ _ _ => N4
      refine (hP _ _ _ _ (j / 2) F4 N4 (by omega) ⟨_, _, _, rfl, rfl, (by rw [← hh]; rfl), rfl, rfl, strsSet hy (j + 1), by rw [List.length_set]; exact hal, by rw [List.length_set]; exact hlt, ?_, ?_⟩).2
      · rw [hh, Int.toNat_natCast]; exact hs.step hk hc
      · rw [hh, Int.toNat_natCast]; exact (perm_move hk hlt (by omega)).trans hpm
    · rename_i hc
      rename StrsAre _ _ => hy
      rename Fr _ _ _ _ => F2
      rename News _ _ _ _ => N2
      rw [hh, Int.toNat_natCast] at hc
      refine (hP2 _ _ ?_).1
      walk_at "m steps"
      refine setAt_first F2 N2 (fun _ hp => nomatch hp) (by omega) (by omega) ?_
      intro h3 F3 N3
      walk_at "m steps"
      exact h _ _ _ _ F3.keep (N3.get (.head _)) (strsSet hy (j + 1)) (hs.endS hk hc) hpm
end
theorem keepGone {h₀ h : Heap} {r : Addr} (k : ∀ b o, h₀.get? b = some o → h.get? b = some o) (hr : h₀.get? r = none) : ∀ b o, h₀.get? b = some o → (TI.gone h [r]).get? b = some o := fun b o e => by
  rw [TI.gone_get (fun hm => by rw [List.mem_singleton.mp hm, hr] at e; cases e)]
  exact k b o e
/-- behind a call that turns the list r alone -/
theorem afterTurn {h₀ h h' : Heap} {L r : Addr} {m : Str → Option Value} {own : List (Addr × Obj)} {o o' : Obj} (F : Fr h₀ L h m) (N : News h₀ L h ((r, o) :: own)) (ho : ∀ p ∈ own, p.1 ≠ r) (k : Kp (TI.gone h [r]) h') (hr : h'.get? r = some o') : Fr h₀ L h' m ∧ News h₀ L h' ((r, o') :: own) := by
  have hrn := (N _ (.head _)).2
  have kk : ∀ b o, b ≠ r → h.get? b = some o → h'.get? b = some o := fun b o hb e => k b o (by rw [TI.gone_get (fun hm => hb (List.mem_singleton.mp hm))]; exact e)
  refine ⟨⟨F.ns.at' fun o e => kk L o (Ne.symm hrn.1) e, fun b o e => kk b o (fun q => by rw [q, hrn.2] at e; cases e) (F.keep b o e), F.above⟩, fun p hp => ?_⟩
  rcases List.mem_cons.mp hp with rfl | hp
  · exact ⟨hr, hrn⟩
  · exact ⟨kk _ _ (ho p hp) (N p (.tail _ hp)).1, (N p (.tail _ hp)).2⟩
section
local macro_rules | `(tactic| walk_at "exec While") => `(tactic| refine halt_of ?_)
local macro_rules | `(tactic| walk_at "exec While Compare cons nil") => `(tactic| refine halt_of ?_)
theorem siftup_spec {w : World} {mean : ExcName → Option Value} {mg mb : Str → Option Value} {s : Shared} {Q E : Value → Shared → Prop} {r : Addr} {ws : List Value} {n : Nat} {xs : List Str} {tp : Tok}
    (X : (hd.heap_39 w.params).In (TI.gone s.heap [r])) (T : Tp mean mg mb (TI.gone s.heap [r])) (hr : s.heap.get? r = some (listOf ws.toArray n)) (hx : StrsAre ws xs) (hz : xs.length ≤ 100) (hp : 0 < xs.length) (hi : UInv xs 0)
    (h : ∀ h' tk (ws' : List Value) xs', Kp (TI.gone s.heap [r]) h' → h'.get? r = some (listOf ws'.toArray n) → StrsAre ws' xs' → Hp xs' → xs'.Perm xs → Q .none { s with heap := h', toks := tk }) :
    wpAny (Md w) (lv 890 8900) (call (.ref 152) [.ref r, .int 0 tp]) Q E s := by
  w_on
  k_dflt (refine' enterF (frs := [(r, listOf ws.toArray n)]) (binds := [(Str.ofString "heap", .ref r), (Str.ofString "pos", .int 0 tp)]) X T ?hfr ?ho ?hcd ?hroom ?hb ?hl ?c1 ?c2 ?c3 ?c4 ?_; (case hfr => (intro p hp; rw [List.mem_singleton.mp hp]; exact hr)); walk_at "m enter")
  intro L h₁ F N
  replace F : Fr (TI.gone s.heap [r]) L h₁ _ := F
  replace N : News (TI.gone s.heap [r]) L h₁ [(r, listOf ws.toArray n)] := N
  have hwl := strsLen hx
  refine absF ?_
  walk_at "m steps"
  rename Fr _ _ _ _ => F1
  rename News _ _ _ _ => N1
  rename StrsAre _ _ => hx
  rename_i _ _ t' _ _
  have hself : xs.set 0 (sat xs 0) = xs := by
    unfold sat; rw [List.getD_eq_getElem?_getD, List.getElem?_eq_getElem hp]; simp
  refine Halt.on (whileV (n₀ := xs.length - 0) (UpJ r n xs tp t' (sat xs 0)) F1 N1 ⟨ws, xs, 0, _, _, _, rfl, rfl, rfl, rfl, rfl, rfl, rfl, hx, rfl, hp, hi, (by rw [hself]), rfl⟩ ?_ (by passes_own))
  clear F1 N1 hx
  intro k m₁ news₁ h2 tk2 st P P2 F₁ N₁ hJ hP hP2
  obtain ⟨ys, a, p, te, t1, t2, e1, e2, e3, e4, e5, e6, rfl, hy, hal, hk, hs, hpm, rfl⟩ := hJ
  replace F₁ := frKnow (Str.ofString "heap") F₁ e1
  replace F₁ := frKnow (Str.ofString "startpos") F₁ (by rw [if_neg (by decide)]; exact e2)
  replace F₁ := frKnow (Str.ofString "pos") F₁ (by rw [if_neg (by decide), if_neg (by decide)]; exact e3)
  replace F₁ := frKnow (Str.ofString "childpos") F₁ (by rw [if_neg (by decide), if_neg (by decide), if_neg (by decide)]; exact e4)
  replace F₁ := frKnow (Str.ofString "endpos") F₁ (by rw [if_neg (by decide), if_neg (by decide), if_neg (by decide), if_neg (by decide)]; exact e5)
  replace F₁ := frKnow (Str.ofString "newitem") F₁ (by rw [if_neg (by decide), if_neg (by decide), if_neg (by decide), if_neg (by decide), if_neg (by decide)]; exact e6)
  clear hi hself
  generalize sat xs 0 = x at F₁ e6 hpm hP
  have hyl := strsLen hy
  have z1 : (2 * (p : Int) + 1).toNat = 2 * p + 1 := by omega
  have z2 : (2 * (p : Int) + 1 + 1).toNat = 2 * p + 2 := by omega
  have cast1 : ((2 * p + 1 : Nat) : Int) = 2 * (p : Int) + 1 := by omega
  have cast2 : ((2 * p + 2 : Nat) : Int) = 2 * (p : Int) + 1 + 1 := by omega
  walk_at "m steps"
  · rename_i _ _ hc
    rename StrsAre _ _ => hy
    rename Fr _ _ _ _ => F2
    rename News _ _ _ _ => N2
    rw [z1]
    refine setAt_first F2 N2 (fun _ hp => nomatch hp) (by omega) (by omega) ?_
    intro h3 F3 N3
    walk_at "m steps"
    rename Fr _ _ _ _ => F4
    rename News _ _ _ _ => N4
    refine (hP _ _ _ _ (xs.length - (2 * p + 1)) F4 N4 (by omega) ⟨_, _, 2 * p + 1, _, _, _, rfl, rfl, (by rw [cast1]; rfl), (by rw [cast1]; rfl), rfl, rfl, rfl, strsSet hy p, (by rw [List.length_set]; exact hal), (by rw [List.length_set]; omega), ?_, ?_, rfl⟩).1
    · refine hs.step (by omega) (by omega) (by omega) (fun i g1 g2 g3 => ?_)
      rcases (by omega : i = 2 * p + 1 ∨ i = 2 * p + 2) with rfl | rfl
      · exact SLe.refl _
      · refine SLt.le ?_
        show (sat a (2 * p + 1)).cps.toList < (sat a (2 * p + 2)).cps.toList
        rw [← z1, ← z2]; assumption
    · exact (perm_move hk (by omega) (by omega)).trans hpm
  · rename_i _ _ hc
    rename StrsAre _ _ => hy
    rename Fr _ _ _ _ => F2
    rename News _ _ _ _ => N2
    rw [z2]
    refine setAt_first F2 N2 (fun _ hp => nomatch hp) (by omega) (by omega) ?_
    intro h3 F3 N3
    walk_at "m steps"
    rename Fr _ _ _ _ => F4
    rename News _ _ _ _ => N4
    refine (hP _ _ _ _ (xs.length - (2 * p + 2)) F4 N4 (by omega) ⟨_, _, 2 * p + 2, _, _, _, rfl, rfl, (by rw [cast2]; rfl), (by rw [cast2]; rfl), rfl, rfl, rfl, strsSet hy p, (by rw [List.length_set]; exact hal), (by rw [List.length_set]; omega), ?_, ?_, rfl⟩).1
    · refine hs.step (by omega) (by omega) (by omega) (fun i g1 g2 g3 => ?_)
      rcases (by omega : i = 2 * p + 1 ∨ i = 2 * p + 2) with rfl | rfl
      · show ¬(sat a (2 * p + 1)).cps.toList < (sat a (2 * p + 2)).cps.toList
        rw [← z1, ← z2]; assumption
      · exact SLe.refl _
    · exact (perm_move hk (by omega) (by omega)).trans hpm
  · rename_i _ hc
    rename StrsAre _ _ => hy
    rename Fr _ _ _ _ => F2
    rename News _ _ _ _ => N2
    rw [z1]
    refine setAt_first F2 N2 (fun _ hp => nomatch hp) (by omega) (by omega) ?_
    intro h3 F3 N3
    walk_at "m steps"
    rename Fr _ _ _ _ => F4
    rename News _ _ _ _ => N4
    refine (hP _ _ _ _ (xs.length - (2 * p + 1)) F4 N4 (by omega) ⟨_, _, 2 * p + 1, _, _, _, rfl, rfl, (by rw [cast1]; rfl), (by rw [cast1]; rfl), rfl, rfl, rfl, strsSet hy p, (by rw [List.length_set]; exact hal), (by rw [List.length_set]; omega), ?_, ?_, rfl⟩).1
    · refine hs.step (by omega) (by omega) (by omega) (fun i g1 g2 g3 => ?_)
      rcases (by omega : i = 2 * p + 1 ∨ i = 2 * p + 2) with rfl | rfl
      · exact SLe.refl _
      · omega
    · exact (perm_move hk (by omega) (by omega)).trans hpm
  · rename_i hc
    refine (hP2 _ _ ?_).2
    walk_at "m steps"
    refine setAt_first F₁ N₁ (fun _ hp => nomatch hp) (by omega) (by omega) ?_
    intro h3 F3 N3
    walk_at "m steps"
    have hsx : sat (a.set p x) p = x := by rw [sat_set hk, if_pos rfl]
    have hgr := keepGone F3.keep (N3.fresh (.head _))
    refine Halt.on (lower (siftdown_spec (X.keeps hgr) (T.keeps hgr) (N3.get (.head _)) (strsSet hy p) (by rw [List.length_set]; omega) (by rw [List.length_set]; exact hk) (by rw [hsx]; exact hs.leaf hk (by omega)) ?_) rfl (Nat.le_of_ble_eq_true rfl) (Nat.le_of_ble_eq_true rfl))
    intro h4 tk4 ws4 xs4 k4 hr4 hw4 hp4 hm4
    obtain ⟨F5, N5⟩ := afterTurn F3 N3 (fun _ hp => nomatch hp) k4 hr4
    walk_at "m steps"
    exact h _ _ _ _ F5.keep (N5.get (.head _)) hw4 hp4 (hm4.trans hpm)
end

theorem push_spec {w : World} {mean : ExcName → Option Value} {mg mb : Str → Option Value} {s : Shared} {Q E : Value → Shared → Prop} {r : Addr} {ws : List Value} {n : Nat} {xs : List Str} {x : Str} {t : Tok}
    (X : (hd.heap_39 w.params).In (TI.gone s.heap [r])) (T : Tp mean mg mb (TI.gone s.heap [r])) (hr : s.heap.get? r = some (listOf ws.toArray n)) (hx : StrsAre ws xs) (hz : xs.length ≤ 90) (hi : Hp xs)
    (h : ∀ h' tk (ws' : List Value) xs' n', Kp (TI.gone s.heap [r]) h' → h'.get? r = some (listOf ws'.toArray n') → StrsAre ws' xs' → Hp xs' → xs'.Perm (xs ++ [x]) → Q .none { s with heap := h', toks := tk }) :
    wpAny (Md w) (lv 890 8900) (call (.ref 131) [.ref r, .str x t]) Q E s := by
  w_on
  k_dflt (refine' enterF (frs := [(r, listOf ws.toArray n)]) (binds := [(Str.ofString "heap", .ref r), (Str.ofString "item", .str x t)]) X T ?hfr ?ho ?hcd ?hroom ?hb ?hl ?c1 ?c2 ?c3 ?c4 ?_; (case hfr => (intro p hp; rw [List.mem_singleton.mp hp]; exact hr)); walk_at "m enter")
  intro L h₁ F N
  refine absF ?_
  replace F : Fr (TI.gone s.heap [r]) L h₁ _ := F
  replace N : News (TI.gone s.heap [r]) L h₁ [(r, listOf ws.toArray n)] := N
  have hwl := strsLen hx
  have hown : ∀ p ∈ ([] : List (Addr × Obj)), p.1 ≠ r := fun _ hp => nomatch hp
  have hx2 := strsSnoc (y := x) (t := t) hx
  walk_at "m steps"
  rename Fr _ _ _ _ => F1
  rename News _ _ _ _ => N1
  refine Calls.call_len_list (isL N1) (by simp; omega) ?_
  rw [show (((ws ++ [Value.str x t]).toArray.size : Nat) : Int) = ((xs.length + 1 : Nat) : Int) by simp [hwl]]
  walk_at "m steps"
  rw [show ((xs.length + 1 : Nat) : Int) - 1 = ((xs.length : Nat) : Int) by omega]
  have hgr := keepGone F1.keep (N1.fresh (.head _))
  refine Halt.on (lower (siftdown_spec (X.keeps hgr) (T.keeps hgr) (N1.get (.head _)) hx2 (by simp; omega) (by simp) (by rw [sat_snoc]; exact hi.snoc) ?_) rfl (Nat.le_of_ble_eq_true rfl) (Nat.le_of_ble_eq_true rfl))
  intro h4 tk4 ws4 xs4 k4 hr4 hw4 hp4 hm4
  obtain ⟨F5, N5⟩ := afterTurn F1 N1 (fun _ hp => nomatch hp) k4 hr4
  walk_at "m steps"
  exact h _ _ _ _ _ F5.keep (N5.get (.head _)) hw4 hp4 hm4
theorem klLast (vs : List Value) (v : Value) : kl_last (vs ++ [v]) = some (vs, v) := by
  induction vs with
  | nil => rfl
  | cons a r ih =>
    cases r with
    | nil => rfl
    | cons b r => simp only [List.cons_append] at ih ⊢; rw [kl_last, ih]
theorem strsSplit {ys : List Str} : ∀ {ws : List Value} {x : Str}, StrsAre ws (ys ++ [x]) → ∃ vs t, ws = vs ++ [.str x t] ∧ StrsAre vs ys := by
  induction ys with
  | nil => intro ws x h; cases h with | cons _ t h => cases h; exact ⟨[], t, rfl, .nil⟩
  | cons y ys ih => intro ws x h; cases h with | cons _ t h => obtain ⟨vs, t', rfl, h'⟩ := ih h; exact ⟨_ :: vs, t', rfl, .cons y t h'⟩
theorem perm_pop {ys : List Str} {x : Str} (h : 0 < ys.length) : (ys ++ [x]).Perm (sat ys 0 :: ys.set 0 x) := by
  cases ys with
  | nil => exact absurd h (Nat.lt_irrefl _)
  | cons y r => exact List.Perm.cons y (List.perm_append_comm (l₁ := r) (l₂ := [x]))
theorem pop_spec {w : World} {mean : ExcName → Option Value} {mg mb : Str → Option Value} {s : Shared} {Q E : Value → Shared → Prop} {r : Addr} {ws : List Value} {n : Nat} {xs : List Str}
    (X : (hd.heap_39 w.params).In (TI.gone s.heap [r])) (T : Tp mean mg mb (TI.gone s.heap [r])) (hr : s.heap.get? r = some (listOf ws.toArray n)) (hx : StrsAre ws xs) (hz : xs.length ≤ 90) (hp : 0 < xs.length) (hi : Hp xs)
    (h : ∀ h' tk t' (ws' : List Value) xs' n', Kp (TI.gone s.heap [r]) h' → h'.get? r = some (listOf ws'.toArray n') → StrsAre ws' xs' → Hp xs' → xs.Perm (sat xs 0 :: xs') → Q (.str (sat xs 0) t') { s with heap := h', toks := tk }) :
    wpAny (Md w) (lv 880 8800) (call (.ref 138) [.ref r]) Q E s := by
  w_on
  k_dflt (refine' enterF (frs := [(r, listOf ws.toArray n)]) (binds := [(Str.ofString "heap", .ref r)]) X T ?hfr ?ho ?hcd ?hroom ?hb ?hl ?c1 ?c2 ?c3 ?c4 ?_; (case hfr => (intro p hp; rw [List.mem_singleton.mp hp]; exact hr)); walk_at "m enter")
  intro L h₁ F N
  refine absF ?_
  replace F : Fr (TI.gone s.heap [r]) L h₁ _ := F
  replace N : News (TI.gone s.heap [r]) L h₁ [(r, listOf ws.toArray n)] := N
  obtain ⟨ys, x, rfl⟩ : ∃ ys x, xs = ys ++ [x] := by
    rcases List.eq_nil_or_concat xs with e | ⟨ys, x, e⟩
    · rw [e] at hp; exact absurd hp (Nat.lt_irrefl _)
    · exact ⟨ys, x, by simpa using e⟩
  obtain ⟨vs, t, rfl, hv⟩ := strsSplit hx
  have hvl := strsLen hv
  have hz' : ys.length ≤ 90 := by simp at hz; omega
  walk_at "m steps"
  refine kl_pop F N (klLast vs _) (.head (fun _ hp => nomatch hp)) (by rw [sizeLine_eq]; simp; omega) ?_
  clear hx
  intro h2 F2 N2
  clear F N
  rcases Nat.eq_zero_or_pos ys.length with e0 | e0
  · obtain rfl : ys = [] := List.length_eq_zero_iff.mp e0
    obtain rfl : vs = [] := List.length_eq_zero_iff.mp hvl
    walk_at "m steps"
    dsimp only
    rename Fr _ _ _ _ => F3
    rename News _ _ _ _ => N3
    exact h _ _ _ [] [] _ F3.keep (N3.get (.head _)) .nil (fun i _ h2 => absurd h2 (Nat.not_lt_zero _)) (List.Perm.refl _)
  · walk_at "m steps"
    · exfalso; simp_all
    · rename Fr _ _ _ _ => F3
      rename News _ _ _ _ => N3
      rename StrsAre _ _ => hv
      refine setAt_first (k := 0) F3 N3 (fun _ hp => nomatch hp) (by omega) (by omega) ?_
      intro h4 F4 N4
      walk_at "m steps"
      have hgr := keepGone F4.keep (N4.fresh (.head _))
      refine Halt.on (lower (siftup_spec (X.keeps hgr) (T.keeps hgr) (N4.get (.head _)) (strsSet hv 0) (by rw [List.length_set]; omega) (by rw [List.length_set]; exact e0) (hi.init.set0 e0) ?_) rfl (Nat.le_of_ble_eq_true rfl) (Nat.le_of_ble_eq_true rfl))
      intro h5 tk5 ws5 xs5 k5 hr5 hw5 hp5 hm5
      obtain ⟨F6, N6⟩ := afterTurn F4 N4 (fun _ hp => nomatch hp) k5 hr5
      walk_at "m steps"
      have hs0 : sat (ys ++ [x]) 0 = sat ys 0 := sat_app e0
      have hpp : (ys ++ [x]).Perm (sat ys 0 :: xs5) := (perm_pop e0).trans (List.Perm.cons _ hm5.symm)
      rw [hs0] at h
      exact h _ _ _ _ _ _ F6.keep (N6.get (.head _)) hw5 hp5 hpp

/-- two lists of things are compared item by item -/
theorem AllSees.at' {h : Heap} {vs : List Value} {ds : List D} (hv : AllSees h vs ds) {j : Nat} (hj : j < vs.toArray.size) : Sees h vs.toArray[j] (ds.getD j (.b #[])) := by
  have hj' : j < vs.length := by simpa using hj
  obtain ⟨d, h1, h2⟩ := hv.get j (vs.toArray[j]) (by simp [hj'])
  rw [List.getD_eq_getElem?_getD, h1]; exact h2
theorem all_eq : ∀ {xs ys : List D} (_ : xs.length = ys.length), (List.range xs.length).all (fun j => decide (xs.getD j (.b #[]) = ys.getD j (.b #[]))) = decide (xs = ys) := by
  intro xs ys hl
  rw [Bool.eq_iff_iff, List.all_eq_true, decide_eq_true_eq]
  constructor
  · intro h
    refine List.ext_getElem hl fun i h1 h2 => ?_
    have := h i (List.mem_range.mpr h1)
    simpa [h1, h2] using this
  · rintro rfl; intro x _; simp
section
variable {A : Around} {s : Shared} {a b : Addr} {vs ws : List Value} {ds es : List D}
theorem rcAt_lists (ha : s.heap.IsList a vs.toArray) (hb : s.heap.IsList b ws.toArray) (hv : AllSees s.heap vs ds) (hw : AllSees s.heap ws es) (hu : A.units + 65 < cLine) : PySem.SeqAt.RcAt A s (.ref a) (.ref b) (decide (ds = es)) := by
  by_cases hl : ds.length = es.length
  · have h1 := PySem.SeqAt.RcAt.lists (A := A) ha hb (e := fun j => decide (ds.getD j (.b #[]) = es.getD j (.b #[]))) (by simp [hv.length, hw.length, hl]) (by omega) (fun j h1 h2 => eqAt_sees (A := A.in1) (hv.at' h1) (hw.at' h2) (by show A.units + 1 + 64 < cLine; omega))
    rw [show vs.toArray.size = ds.length by simp [hv.length], all_eq hl] at h1
    exact h1
  · rw [show decide (ds = es) = false from decide_eq_false fun e => hl (congrArg List.length e)]
    exact PySem.SeqAt.RcAt.lists_lengths ha hb (by simp [hv.length, hw.length, hl]) (by omega)
theorem rcNeAt_lists (ha : s.heap.IsList a vs.toArray) (hb : s.heap.IsList b ws.toArray) (hv : AllSees s.heap vs ds) (hw : AllSees s.heap ws es) (hu : A.units + 65 < cLine) : PySem.SeqAt.RcNeAt A s (.ref a) (.ref b) (!decide (ds = es)) := by
  by_cases hl : ds.length = es.length
  · have h1 := PySem.SeqAt.RcNeAt.lists (A := A) ha hb (e := fun j => decide (ds.getD j (.b #[]) = es.getD j (.b #[]))) (by simp [hv.length, hw.length, hl]) (by omega) (fun j h1 h2 => eqAt_sees (A := A.in1) (hv.at' h1) (hw.at' h2) (by show A.units + 1 + 64 < cLine; omega))
    rw [show vs.toArray.size = ds.length by simp [hv.length], all_eq hl] at h1
    exact h1
  · rw [show decide (ds = es) = false from decide_eq_false fun e => hl (congrArg List.length e)]
    exact PySem.SeqAt.RcNeAt.lists_lengths ha hb (by simp [hv.length, hw.length, hl]) (by omega)
theorem eqAt_lists (ha : s.heap.IsList a vs.toArray) (hb : s.heap.IsList b ws.toArray) (hv : AllSees s.heap vs ds) (hw : AllSees s.heap ws es) (hu : A.units + 65 < cLine) (hne : a ≠ b) : PySem.SeqAt.EqAt A s (.ref a) (.ref b) (decide (ds = es)) :=
  PySem.SeqAt.EqAt.of_refs hne (rcAt_lists ha hb hv hw hu)
variable {prog : Program} {w : World} {E Q : Value → Shared → Prop}
theorem eq_sees (ha : s.heap.IsList a vs.toArray) (hb : s.heap.IsList b ws.toArray) (hv : AllSees s.heap vs ds) (hw : AllSees s.heap ws es) (hu : A.units + 65 < cLine) (h : Q (.bool (decide (ds = es))) s) : wpAny (model prog w) A (compareOp .Eq (.ref a) (.ref b)) Q E s :=
  rcAt_lists ha hb hv hw hu prog w E Q h
theorem ne_sees (ha : s.heap.IsList a vs.toArray) (hb : s.heap.IsList b ws.toArray) (hv : AllSees s.heap vs ds) (hw : AllSees s.heap ws es) (hu : A.units + 65 < cLine) (h : Q (.bool (!decide (ds = es))) s) : wpAny (model prog w) A (compareOp .NotEq (.ref a) (.ref b)) Q E s :=
  rcNeAt_lists ha hb hv hw hu prog w E Q h
theorem strsSees {h : Heap} : ∀ {vs : List Value} {ys : List Str}, StrsAre vs ys → AllSees h vs (ys.map D.s)
  | _, _, .nil => .nil
  | _, _, .cons _ t r => .cons ⟨t, rfl⟩ (strsSees r)
theorem map_s_inj {xs ys : List Str} : decide (xs.map D.s = ys.map D.s) = decide (xs = ys) := by
  rw [Bool.eq_iff_iff, decide_eq_true_eq, decide_eq_true_eq]
  exact ⟨fun e => (List.map_inj_right (fun _ _ q => by cases q; rfl)).mp e, fun e => by rw [e]⟩
theorem ne_strs {xs ys : List Str} (ha : s.heap.IsList a vs.toArray) (hb : s.heap.IsList b ws.toArray) (hv : StrsAre vs xs) (hw : StrsAre ws ys) (hu : A.units + 65 < cLine) (h : Q (.bool (!decide (xs = ys))) s) : wpAny (model prog w) A (compareOp .NotEq (.ref a) (.ref b)) Q E s :=
  ne_sees ha hb (strsSees hv) (strsSees hw) hu (by rw [map_s_inj]; exact h)
end

/-- what is taken out of the heap so far: rising, none above what is left, and with it the same texts as at first -/
def Took (xs a b : List Str) : Prop := b.Pairwise SLt ∧ (∀ z ∈ b, ∀ y ∈ a, SLe z y) ∧ ∀ z, z ∈ xs ↔ z ∈ a ∨ z ∈ b
theorem Took.start {xs a : List Str} (h : a.Perm xs) : Took xs a [] := by
  refine ⟨.nil, ?_, fun z => ?_⟩
  · intro z hz; cases hz
  · rw [h.mem_iff]; simp
theorem mem_sat {a : List Str} {y : Str} (h : y ∈ a) : ∃ i, i < a.length ∧ sat a i = y := by
  obtain ⟨i, hi, e⟩ := List.getElem_of_mem h
  exact ⟨i, hi, by simpa [sat, hi] using e⟩
theorem Took.hit {xs a a' b : List Str} (h : Took xs a b) (ha : Hp a) (hp : a.Perm (sat a 0 :: a')) (hb : b.drop (b.length - 1) = [sat a 0]) : Took xs a' b := by
  obtain ⟨h1, h2, h3⟩ := h
  have hm : sat a 0 ∈ b := List.mem_of_mem_drop (i := b.length - 1) (by rw [hb]; simp)
  refine ⟨h1, fun z hz y hy => h2 z hz y (hp.mem_iff.mpr (.tail _ hy)), fun z => ?_⟩
  rw [h3 z, hp.mem_iff]
  constructor
  · rintro (q | q)
    · rcases List.mem_cons.mp q with rfl | q
      · exact .inr hm
      · exact .inl q
    · exact .inr q
  · rintro (q | q)
    · exact .inl (.tail _ q)
    · exact .inr q
theorem Took.miss {xs a a' b : List Str} (h : Took xs a b) (ha : Hp a) (h0 : 0 < a.length) (hp : a.Perm (sat a 0 :: a')) (hb : b.drop (b.length - 1) ≠ [sat a 0]) : Took xs a' (b ++ [sat a 0]) := by
  obtain ⟨h1, h2, h3⟩ := h
  have hmem : sat a 0 ∈ a := hp.mem_iff.mpr (List.mem_cons_self ..)
  have hroot : ∀ y ∈ a, SLe (sat a 0) y := fun y hy => by
    obtain ⟨i, hi, rfl⟩ := mem_sat hy
    exact ha.root i hi
  refine ⟨?_, ?_, fun z => ?_⟩
  · rw [List.pairwise_append]
    refine ⟨h1, List.pairwise_singleton .., fun z hz y hy => ?_⟩
    rw [List.mem_singleton.mp hy]
    rcases List.eq_nil_or_concat b with rfl | ⟨c, x, rfl⟩
    · cases hz
    · rw [List.concat_eq_append] at *
      have hx : x ≠ sat a 0 := fun e => hb (by simp [e])
      have hlt : SLt x (sat a 0) := Classical.byContradiction fun q => hx (SLe.antisymm (h2 x (by simp) _ hmem) q)
      rcases List.mem_append.mp hz with hz | hz
      · have q := (List.pairwise_append.mp h1).2.2 z hz x (by simp)
        exact List.lt_trans (show z.cps.toList < x.cps.toList from q) (show x.cps.toList < (sat a 0).cps.toList from hlt)
      · rw [List.mem_singleton.mp hz]; exact hlt
  · intro z hz y hy
    have hy' : y ∈ a := hp.mem_iff.mpr (.tail _ hy)
    rcases List.mem_append.mp hz with hz | hz
    · exact h2 z hz y hy'
    · rw [List.mem_singleton.mp hz]; exact hroot y hy'
  · rw [h3 z, hp.mem_iff]
    simp only [List.mem_cons, List.mem_append, List.not_mem_nil, or_false]
    constructor
    · rintro ((q | q) | q)
      · exact .inr (.inr q)
      · exact .inl q
      · exact .inr (.inl q)
    · rintro (q | q | q)
      · exact .inl (.inr q)
      · exact .inr q
      · exact .inl (.inl q)
theorem Took.fin {xs b : List Str} (h : Took xs [] b) : b.Pairwise SLt ∧ ∀ z, z ∈ xs ↔ z ∈ b := ⟨h.1, fun z => by rw [h.2.2 z]; simp⟩
theorem strsDrop {vs : List Value} {ys : List Str} (k : Nat) (h : StrsAre vs ys) : StrsAre (vs.drop k) (ys.drop k) := by
  induction h generalizing k with
  | nil => rw [List.drop_nil, List.drop_nil]; exact .nil
  | cons y t h ih =>
    cases k with
    | zero => exact .cons y t h
    | succ k => exact ih k
theorem pick_last {vs : List Value} : PySem.W.kms_pick vs.toArray.toList (some (-1)) none = vs.drop (vs.length - 1) := by
  show (vs.drop (vs.length - 1)).take (vs.length - (vs.length - 1)) = _
  exact List.take_of_length_le (by rw [List.length_drop]; omega)
theorem strsAt {vs : List Value} {ys : List Str} (h : StrsAre vs ys) : ∀ (i : Nat) (v : Value), vs[i]? = some v → ∃ x t, v = Value.str x t ∧ ys[i]? = some x := by
  induction h with
  | nil => intro i v e; rw [List.getElem?_nil] at e; cases e
  | cons y t _ ih =>
    intro i v e
    cases i with
    | zero => exact ⟨y, t, (Option.some.inj e).symm, rfl⟩
    | succ i => exact ih i v e
section
local macro_rules | `(tactic| walk_at "exec While") => `(tactic| refine halt_of ?_)
local macro_rules | `(tactic| walk_at "exec While Compare cons nil") => `(tactic| refine halt_of ?_)
local macro_rules | `(tactic| walk_at "subscriptTail Name Slice ref ref") => `(tactic| refine halt_of ?_)
local macro_rules | `(tactic| walk_at "compareOp NotEq ref ref") => `(tactic| refine halt_of ?_)
theorem emptied_spec {w : World} {mean : ExcName → Option Value} {mg mb : Str → Option Value} {s : Shared} {Q E : Value → Shared → Prop} {l : Addr} {vs : List Value} {xs : List Str}
    (X : (hd.heap_39 w.params).In s.heap) (T : Tp mean mg mb s.heap) (hl : s.heap.IsList l vs.toArray) (hv : StrsAre vs xs) (hz : xs.length ≤ 50)
    (h : ∀ h' tk r (us : List Value) b n, Kp s.heap h' → s.heap.get? r = none → h'.get? r = some (listOf us.toArray n) → StrsAre us b → b.Pairwise SLt → (∀ z, z ∈ xs ↔ z ∈ b) → Q (.ref r) { s with heap := h', toks := tk }) :
    wpAny (Md w) (lv 870 8700) (call (.ref 181) [.ref l]) Q E s := by
  w_on
  k_dflt (refine' enterP (binds := [(Str.ofString "texts", .ref l)]) X T ?ho ?hcd ?hroom ?hb ?hl ?c1 ?c2 ?c3 ?c4 ?_; walk_at "m enter")
  intro L h₁ F N
  walk_at "m steps"
  rename Fr _ _ _ _ => F1
  rename News _ _ _ _ => N1
  rename_i rh _ _ rt _ q2 D _ q3 _ _ h9
  have N2 : News s.heap L h9 [(rh, listOf ([] : List Value).toArray 0), (rt, listOf ([] : List Value).toArray 0)] := fun p hp => N1 p (by simp only [List.mem_cons, List.not_mem_nil, or_false] at hp ⊢; rcases hp with rfl | rfl <;> simp)
  have c1 : (rt : Nat) ≠ rh := Nat.ne_of_gt q2
  refine Halt.on (for_vals (fun i m nw => m (Str.ofString "heap") = some (.ref rh) ∧ m (Str.ofString "taken") = some (.ref rt) ∧ ∃ ws n a, nw = [(rh, listOf ws.toArray n), (rt, listOf ([] : List Value).toArray 0)] ∧ StrsAre ws a ∧ Hp a ∧ a.Perm (xs.take i)) rfl hl F1 N2 ⟨rfl, rfl, [], 0, [], rfl, .nil, (fun i _ h2 => absurd h2 (Nat.not_lt_zero _)), List.Perm.refl _⟩ ?_ ?_)
  · clear F1 N1 N2
    intro i v m₁ news₁ h4 tk4 own hi _ hoff hJ F₁ N₁
    refine absQ fun st tk4 P hP => ?_
    obtain ⟨e1, e2, ws, n, a, rfl, hw, ha, hpm⟩ := hJ
    obtain ⟨x, t, rfl, hx⟩ := strsAt hv i v hi
    replace F₁ := frKnow (Str.ofString "heap") F₁ (by rw [if_neg (by decide)]; exact e1)
    replace F₁ := frKnow (Str.ofString "taken") F₁ (by rw [if_neg (by decide), if_neg (by decide)]; exact e2)
    replace N₁ : News s.heap L h4 ((rh, listOf ws.toArray n) :: (rt, listOf ([] : List Value).toArray 0) :: own) := N₁
    have hown : ∀ p ∈ ((rt, listOf ([] : List Value).toArray 0) :: own), p.1 ≠ rh := fun p hp => (List.mem_cons.mp hp).elim (fun e => by rw [e]; exact c1) (hoff.ne (.head _) p)
    have hil : i < xs.length := (List.getElem?_eq_some_iff.mp hx).1
    have hlen : a.length ≤ 50 := by rw [hpm.length_eq, List.length_take]; omega
    walk_at "m steps"
    have hgr := keepGone F₁.keep (N₁.fresh (.head _))
    refine Halt.on (lower (push_spec (X.keeps hgr) (T.keeps hgr) (N₁.get (.head _)) hw (by omega) ha ?_) rfl (Nat.le_of_ble_eq_true rfl) (Nat.le_of_ble_eq_true rfl))
    intro h5 tk5 ws5 xs5 n5 k5 hr5 hw5 hp5 hm5
    obtain ⟨F6, N6⟩ := afterTurn F₁ N₁ hown k5 hr5
    walk_at "m steps"
    refine hP _ _ _ ⟨_, _, _, _, [(rh, listOf ws5.toArray n5), (rt, listOf ([] : List Value).toArray 0)], rfl, F6, N6, ?_, (fun p hp => .tail _ (.tail _ hp)), rfl, rfl, rfl, _, _, _, rfl, hw5, hp5, ?_⟩
    · intro p hp
      simp only [List.mem_cons, List.not_mem_nil, or_false] at hp ⊢; rcases hp with rfl | rfl <;> simp
    · rw [take_snoc hx]; exact hm5.trans (hpm.append_right _)
  · clear F1 N1 N2
    rintro m₁ news₁ h4 tk4 ⟨e1, e2, ws, n, a, rfl, hw, ha, hpm⟩ F₁ N₁
    have hvl := strsLen hv
    rw [List.take_of_length_le (by omega)] at hpm
    replace F₁ := frKnow (Str.ofString "heap") F₁ e1
    replace F₁ := frKnow (Str.ofString "taken") F₁ (by rw [if_neg (by decide)]; exact e2)
    walk_at "m steps"
    have hlen : a.length ≤ 50 := by rw [hpm.length_eq]; exact hz
    refine Halt.on (whileV (n₀ := a.length) (fun k m nw => m (Str.ofString "heap") = some (.ref rh) ∧ m (Str.ofString "taken") = some (.ref rt) ∧ ∃ ws n us n' a b, nw = [(rh, listOf ws.toArray n), (rt, listOf us.toArray n')] ∧ StrsAre ws a ∧ StrsAre us b ∧ Hp a ∧ a.length = k ∧ a.length + b.length ≤ 50 ∧ Took xs a b) F₁ N₁ ⟨rfl, rfl, ws, n, [], 0, a, [], rfl, hw, .nil, ha, rfl, by simpa using hlen, Took.start hpm⟩ ?_ (by passes_own))
    clear F₁ N₁ hw ha hpm
    intro k m₂ news₂ h5 tk5 st P P2 F₂ N₂ hJ hP hP2
    obtain ⟨f1, f2, ws, n, us, n', a, b, rfl, hw, hu, ha, rfl, hl2, htk⟩ := hJ
    replace F₂ := frKnow (Str.ofString "heap") F₂ f1
    replace F₂ := frKnow (Str.ofString "taken") F₂ (by rw [if_neg (by decide)]; exact f2)
    walk_at "m steps"
    rename Fr _ _ _ _ => F3
    rename News _ _ _ _ => N3
    refine Halt.on (ne_strs (ws := []) ⟨_, N3.get (.tail _ (.head _)), rfl, n, rfl⟩ ⟨_, N3.get (.head _), rfl, 0, rfl⟩ hw .nil (Nat.le_of_ble_eq_true rfl) ?_)
    walk_at "m steps"
    · rename decide (a = []) = true => hnil
      have e0 : a = [] := of_decide_eq_true hnil
      subst e0
      have hf := htk.fin
      refine (hP2 _ _ ?_).2
      walk_at "m steps"
      exact h _ _ rt us b n' F3.keep (N3.fresh (.tail _ (.tail _ (.head _)))) (N3.get (.tail _ (.tail _ (.head _)))) hu hf.1 hf.2
    · rename decide (a = []) = false => hnil
      have e0 : a ≠ [] := of_decide_eq_false hnil
      have hpos : 0 < a.length := List.length_pos_iff.mpr e0
      have N4 : News s.heap L _ ((rh, listOf ws.toArray n) :: [(rt, listOf us.toArray n')]) := fun p hp => N3 p (.tail _ hp)
      clear N3
      have hown : ∀ p ∈ [(rt, listOf us.toArray n')], p.1 ≠ rh := fun p hp => by rw [List.mem_singleton.mp hp]; exact c1
      have hgr := keepGone F3.keep (N4.fresh (.head _))
      refine Halt.on (lower (pop_spec (X.keeps hgr) (T.keeps hgr) (N4.get (.head _)) hw (by omega) hpos ha ?_) rfl (Nat.le_of_ble_eq_true rfl) (Nat.le_of_ble_eq_true rfl))
      intro h6 tk6 t6 ws6 a6 n6 k6 hr6 hw6 ha6 hp6
      obtain ⟨F6, N6⟩ := afterTurn F3 N4 hown k6 hr6
      clear F3 N4 hgr
      have hlen6 := hp6.length_eq
      rw [List.length_cons] at hlen6
      have hlu := strsLen hu
      walk_at "m steps"
      rename Fr _ _ _ _ => F7
      rename News _ _ _ _ => N7
      refine Halt.on (PySem.W.kms_slice_lit (m := fun y => if y = Str.ofString "text" then some (Value.str (sat a 0) t6) else if y = Str.ofString "taken" then some (Value.ref rt) else if y = Str.ofString "heap" then some (Value.ref rh) else m₂ y) (zs := us.drop (us.length - 1)) F7 N7 ⟨_, N7.get (.tail _ (.head _)), rfl, n', rfl⟩ (IsPart.int _ _) IsPart.none pick_last ?_ (by with_unfolding_all rfl) (by intro _; with_unfolding_all rfl) (by rw [List.size_toArray, sizeLine_eq]; omega))
      intro rd h8 F8 N8 lt8
      clear F7 N7
      walk_at "m steps"
      rename Fr _ _ _ _ => F9
      rename News _ _ _ _ => N9
      refine Halt.on (ne_strs (ws := [Value.str (sat a 0) t6]) ⟨_, N9.get (.tail _ (.head _)), rfl, 0, rfl⟩ ⟨_, N9.get (.head _), rfl, 0, rfl⟩ (strsDrop (us.length - 1) hu) (.cons _ _ .nil) (Nat.le_of_ble_eq_true rfl) ?_)
      rw [hlu]
      have N10 : News s.heap L _ [(rh, listOf ws6.toArray n6), (rt, listOf us.toArray n')] := fun p hp => N9 p (.tail _ (.tail _ hp))
      clear N9 k6 hr6 F6 N6
      walk_at "m steps"
      · rename List.drop (List.length b - 1) b = [sat a 0] => hd1
        refine (hP _ _ _ _ (a6.length) F9 N10 (by omega) ⟨rfl, rfl, ws6, n6, us, n', a6, b, rfl, hw6, hu, ha6, rfl, by omega, htk.hit ha hp6 hd1⟩).1
      · rename ¬List.drop (List.length b - 1) b = [sat a 0] => hd1
        rename Fr _ _ _ _ => F11
        rename News _ _ _ _ => N11
        rw [List.push_toArray] at N11
        refine (hP _ _ _ _ (a6.length) F11 N11 (by omega) ⟨rfl, rfl, ws6, n6, us ++ [.str (sat a 0) t6], n' + 1, a6, b ++ [sat a 0], rfl, hw6, strsSnoc hu, ha6, rfl, by rw [List.length_append]; simp only [List.length_cons, List.length_nil]; omega, htk.miss ha hpos hp6 hd1⟩).1
end

/-- what is left of a list when each thing is kept once, by the first -/
noncomputable def onceG {α : Type} [DecidableEq α] (l : List α) : List α := l.foldl (fun k d => if d ∈ k then k else k ++ [d]) []
theorem onceG_take {α : Type} [DecidableEq α] {ds : List α} {i : Nat} {d : α} (h : ds[i]? = some d) : onceG (ds.take (i + 1)) = if d ∈ onceG (ds.take i) then onceG (ds.take i) else onceG (ds.take i) ++ [d] := by
  unfold onceG
  rw [take_snoc h, List.foldl_append]
  rfl
theorem onceG_snoc {α : Type} [DecidableEq α] (l : List α) (d : α) : onceG (l ++ [d]) = if d ∈ onceG l then onceG l else onceG l ++ [d] := by
  unfold onceG
  rw [List.foldl_append]
  rfl
theorem snoc_ind {α : Type} {P : List α → Prop} (h0 : P []) (h1 : ∀ l a, P l → P (l ++ [a])) : ∀ l, P l := fun l => by
  have : ∀ n (l : List α), l.length = n → P l := by
    intro n
    induction n with
    | zero => intro l hl; rw [List.length_eq_zero_iff.mp hl]; exact h0
    | succ n ih =>
      intro l hl
      rcases List.eq_nil_or_concat l with rfl | ⟨c, a, rfl⟩
      · simp at hl
      · rw [List.concat_eq_append] at *
        exact h1 c a (ih c (by simpa using hl))
  exact this _ l rfl
theorem mem_onceG {α : Type} [DecidableEq α] {a : α} : ∀ {l : List α}, a ∈ onceG l ↔ a ∈ l := fun {l} => by
  refine snoc_ind (P := fun l => a ∈ onceG l ↔ a ∈ l) (by simp [onceG]) (fun l d ih => ?_) l
  rw [onceG_snoc, List.mem_append, List.mem_singleton]
  by_cases hd : d ∈ onceG l
  · rw [if_pos hd, ih]
    constructor
    · exact Or.inl
    · rintro (q | rfl)
      · exact q
      · exact ih.mp hd
  · rw [if_neg hd, List.mem_append, List.mem_singleton, ih]
theorem nodup_onceG {α : Type} [DecidableEq α] (l : List α) : (onceG l).Nodup := by
  refine snoc_ind (P := fun l => (onceG l).Nodup) (by simp [onceG]) (fun l d ih => ?_) l
  rw [onceG_snoc]
  by_cases hd : d ∈ onceG l
  · rw [if_pos hd]; exact ih
  · rw [if_neg hd, List.nodup_append]
    refine ⟨ih, by simp, fun a ha b hb => ?_⟩
    rw [List.mem_singleton.mp hb]
    exact fun e => hd (e ▸ ha)
theorem onceG_map {α β : Type} [DecidableEq α] [DecidableEq β] (f : α → β) : ∀ (l : List α), (∀ a ∈ l, ∀ b ∈ l, f a = f b → a = b) → onceG (l.map f) = (onceG l).map f := fun l => by
  refine snoc_ind (P := fun l => (∀ a ∈ l, ∀ b ∈ l, f a = f b → a = b) → onceG (l.map f) = (onceG l).map f) (fun _ => rfl) (fun l d ih hf => ?_) l
  have ih' := ih fun a ha b hb => hf a (List.mem_append_left _ ha) b (List.mem_append_left _ hb)
  rw [List.map_append, List.map_cons, List.map_nil, onceG_snoc, onceG_snoc, ih']
  have e : f d ∈ (onceG l).map f ↔ d ∈ onceG l := by
    constructor
    · intro hm
      obtain ⟨a, ha, q⟩ := List.mem_map.mp hm
      have := hf a (List.mem_append_left _ (mem_onceG.mp ha)) d (by simp) q
      exact this ▸ ha
    · exact fun hm => List.mem_map_of_mem hm
  by_cases hd : d ∈ onceG l
  · rw [if_pos (e.mpr hd), if_pos hd]
  · rw [if_neg (fun q => hd (e.mp q)), if_neg hd, List.map_append, List.map_cons, List.map_nil]
theorem onceG_len {α : Type} [DecidableEq α] (l : List α) : (onceG l).length ≤ l.length := by
  refine snoc_ind (P := fun l => (onceG l).length ≤ l.length) (by simp [onceG]) (fun l d ih => ?_) l
  rw [onceG_snoc, List.length_append]
  split <;> simp <;> omega
theorem once_eq (l : List D) : once l = onceG l := rfl

open KFB in
noncomputable def fkBound : Obj := { cls := .type "builtin_function_or_method", data := .fields #[.builtin "dict.fromkeys", .type "dict"] }
theorem fk_type : typeOf (.builtin "dict.fromkeys") = pure (.type "classmethod_descriptor") := by show builtinType _ = _; rw [builtinType_eq_fast]; kernel_rfl
theorem fk_entry : entryFor table "dict.fromkeys" = some Builtin.«dict.fromkeys» := entryFor_of_tree (by kernel_rfl)
theorem fk_entryL : entryFor table "dict.fromkeys.loop" = some Builtin.«dict.fromkeys.loop» := entryFor_of_tree (by kernel_rfl)
theorem fk_quiet {as : Args} : (Code.builtin "dict.fromkeys" as).quiet = true := Code.quiet_builtin _ (by decide +kernel)
theorem fk_plainL : plainId "dict.fromkeys.loop" = true := by decide +kernel
theorem fk_isType : isType (.type "dict") = pure true := by first | rfl | kernel_rfl | (unfold isType; rw [isSubtype_type]; kernel_rfl)
theorem fk_owner : (kfb_private% "ownerAndName") "dict.fromkeys" = ("dict", "fromkeys") := by first | decide +kernel | kernel_rfl
theorem fk_typeCall0 : checkTypeCall "dict" ⟨[], []⟩ = pure () := by kernel_rfl
theorem fk_newCall0 : checkBuiltinCall "dict.__new__" ⟨[.type "dict"], []⟩ = pure () := by kernel_rfl
theorem fk_check {l : Addr} : checkBoundCall "dict.fromkeys" ⟨[.type "dict", .ref l], []⟩ = pure () := by first | kernel_rfl | rfl
section
variable {prog : Program} {w : World} {A : Around} {E : Value → Shared → Prop} {s : Shared} {K : Frag} {h₀ : Heap} {L : Addr} {m : PySem.Str → Option Value} {news : List (Addr × Obj)}
theorem fk_new0 {Q₁ : Value → Shared → Prop} (h : Q₁ (.ref s.heap.objs.size) { s with heap := s.heap.push { cls := .type "dict", data := .dict #[] } }) :
    codeAny (model prog w) A (.call (.builtin "dict.__new__") ⟨[.type "dict"], []⟩) (wants Q₁ E) s := by
  refine codeAny_call_builtin F.kt_plain_dict_new F.kt_entry_dict_new (wpAny_of_eq fk_newCall0 ?_)
  have hsub := F.kt_sub_dict
  have hmro := F.kt_mro_dict
  obtain ⟨hp, g, d, tk, os⟩ := s
  unfold Builtin.«dict.__new__»
  wp_walk
  exact h
theorem fk_call0 {Q : Value → Shared → Prop} (h : Q (.ref s.heap.objs.size) { s with heap := s.heap.push { cls := .type "dict", data := .dict #[] } }) :
    wpAny (model prog w) A (call (.type "dict") []) Q E s := by
  refine callType_codes (Q₁ := fun obj s₁ => obj = .ref s.heap.objs.size ∧ s₁ = { s with heap := s.heap.push { cls := .type "dict", data := .dict #[] } }) F.kt_called_dict fk_typeCall0 F.entry_dict_init (fk_new0 ⟨rfl, rfl⟩) ?_
  rintro obj s₁ ⟨rfl, rfl⟩
  have hnew : (s.heap.push { cls := .type "dict", data := .dict #[] }).DictOf (PySem.strKind prog w) s.heap.objs.size [] := Heap.DictOf.new s.heap
  refine ⟨hnew.typeIs, F.args_dict_init_1 _, ?_⟩
  unfold Builtin.«dict.__init__»
  refine wpAny_bind ?_
  unfold Builtin.Dict.selfAndRest
  refine wpAny_bind (wpAny_notOrdered_dict hnew.typeIs ?_)
  refine wpAny_pure ?_
  show wpAny _ _ (Builtin.Dict.addKeywords s.heap.objs.size [] >>= _) _ _ _
  exact wpAny_bind (wpAny_pure (wpAny_pure ⟨rfl, h⟩))
theorem fk_get {M : Model} {P : Fin → Shared → Prop} (h : P (.done (.ret (.ref s.heap.objs.size))) { s with heap := s.heap.push fkBound }) :
    wpAny M A (Builtin.«classmethod_descriptor.__get__» ⟨[.builtin "dict.fromkeys", .none, .type "dict"], []⟩) P E s := by
  unfold Builtin.«classmethod_descriptor.__get__»
  refine wpAny_bind (wpAny_of_eq (a := (.builtin "dict.fromkeys", none, some (.type "dict"))) (by first | rfl | kernel_rfl) ?_)
  simp only [fk_owner]
  refine wpAny_bind (wpAny_of_eq (a := .type "dict") rfl ?_)
  refine wpAny_bind (wpAny_of_eq (a := true) fk_isType ?_)
  refine KFB.if_not rfl ?_
  refine wpAny_bind (wpAny_of_eq (a := true) F.kt_sub_dict ?_)
  refine KFB.if_not rfl ?_
  exact wpAny_bind (wpAny_newObj_type (wpAny_pure h))
theorem fk_getm {pl : Sem Bool} {Q : Value × List Value → Shared → Prop} (F : Fr h₀ L s.heap m) (N : News h₀ L s.heap news) (X₀ : K.In h₀)
    (e : findCls K (.type "dict") (.type "type") (PySem.Str.ofString "fromkeys") = some (.get (.builtin "classmethod_descriptor.__get__") (.builtin "dict.fromkeys") .none (.type "dict")))
    (h : ∀ x h', Fr h₀ L h' m → News h₀ L h' ((x, fkBound) :: news) → (∀ p ∈ news, p.1 < x) → Q (.ref x, []) { s with heap := h', toks := s.toks + 1 }) :
    wpAny (model prog w) A (getMethod (.type "dict") (PySem.Str.ofString "fromkeys") pl) Q E s := by
  have X := X₀.keeps F.keep
  have hstub : opaqueClassAbove (.type "dict") = pure none := by unfold opaqueClassAbove; dsimp only; rw [show Manifest.isStub "dict" = false by decide +kernel]; rfl
  have ht : typeOf (.type "dict") = pure (.type "type") := by first | rfl | kernel_rfl
  have L0 : Looks (model prog w) s.heap (typeOf (.type "dict")) (.type "type") := Looks.of_pure ht
  have hg : findIn K (.type "type") "__getattribute__" = some (some (.builtin "type.__getattribute__")) := type_tga
  unfold getMethod specialOf
  refine wpAny_bind (wpAny_bind (L0.here ((looks_findIn X hg).here ?_)))
  dsimp only
  rw [if_pos canon_tga]
  refine wpAny_bind (wpAny_mono (Q := fun v => Q (v, [])) (E := E) ?_ (fun _ _ z => wpAny_pure z) fun _ _ z => z)
  have LO : Looks (model prog w) s.heap (opaqueClassAbove (.type "dict")) none := Looks.of_pure hstub
  refine cls_open X LO L0 hg (looks_hook X (r := none) (by rfl)) (by show subIn K _ _ = _; rfl) e ?_
  show wpAny _ _ (holding [.builtin "dict.fromkeys"] (call (.builtin "classmethod_descriptor.__get__") [.builtin "dict.fromkeys", .none, .type "dict"]) >>= fun v => ret v) _ _ _
  exact wpAny_bind (wpAny_holding (wpAny_call_entry KFB.slot_get fk_type KFB.entry_get (fk_get ⟨_, rfl, wpAny_pure (wpAny_pure (h _ _ (F.push _) (News.push F N _) fun p hp => Heap.lt_size (N p hp).1))⟩) (KFB.args_get _ _ _)))
theorem fk_call {x l : Addr} {Q : Value → Shared → Prop} (ho : s.heap.get? x = some fkBound)
    (h : codeAny (model prog w) A (.builtin "dict.fromkeys" ⟨[.type "dict", .ref l], []⟩) (wants Q E) s) : wpAny (model prog w) A (call (.ref x) [.ref l]) Q E s := by
  refine wpAny_call (codeAny_of_tree ?_)
  show wpAny _ A.in1 (callAny (.ref x) ⟨[.ref l], []⟩) _ _ s
  simp only [callAny]
  refine wpAny_bind (wpAny_load ho ?_)
  simp only [fkBound, show (Value.type "builtin_function_or_method" == Value.type "method" || Value.type "builtin_function_or_method" == Value.type "builtin_function_or_method" || Value.type "builtin_function_or_method" == Value.type "method-wrapper") = true by decide, if_true]
  refine KFB.if_so (by decide) ?_
  refine wpAny_bind (wpAny_of_eq (a := ()) fk_check ?_)
  refine wpAny_bind (wpAny_pure (wpAny_pure ?_))
  exact ⟨fk_quiet, h⟩
end

theorem fk_plain : plainId "dict.fromkeys" = true := by decide +kernel
section
variable {prog : Program} {w : World} {A : Around} {E : Value → Shared → Prop}
theorem stored_none {xs : List Str} (x : Str) : stored (xs.map fun y => (y, Value.none)) x Value.none = (if x ∈ xs then xs else xs ++ [x]).map fun y => (y, Value.none) := by
  unfold stored
  by_cases h : x ∈ xs
  · rw [if_pos (by rw [List.any_eq_true]; exact ⟨(x, .none), List.mem_map.mpr ⟨x, h, rfl⟩, by simp⟩), if_pos h, List.map_map]
    refine List.map_congr_left fun y _ => ?_
    simp only [Function.comp]
    split <;> simp_all
  · rw [if_neg (fun q => ?_), if_neg h, List.map_append]
    · rfl
    · rw [List.any_eq_true] at q
      obtain ⟨kv, hkv, e⟩ := q
      obtain ⟨y, hy, rfl⟩ := List.mem_map.mp hkv
      exact h ((of_decide_eq_true e) ▸ hy)
theorem fk_loopS {it l D : Addr} {vs : List Value} {xs : List Str} {R : Result → Shared → Prop} (hh : A.handled = none) (hv : StrsAre vs xs) (hz : xs.length ≤ 1000) (hne : (@Ne Nat D it)) (hneL : (@Ne Nat l it)) (hDl : (@Ne Nat D l)) (k : Nat) :
    ∀ (i : Nat) (s : Shared), i + k = xs.length → s.heap.IsListIter it l i → s.heap.IsList l vs.toArray → s.heap.DictOf (PySem.strKind prog w) D ((onceG (xs.take i)).map fun x => (x, Value.none)) →
      (∀ h' tk, (∀ b o, b ≠ it → b ≠ D → s.heap.get? b = some o → h'.get? b = some o) → h'.DictOf (PySem.strKind prog w) D ((onceG xs).map fun x => (x, Value.none)) → R (.ok (.ret (.ref D))) { s with heap := h', toks := tk }) →
      wpAny (model prog w) A.in1 (Builtin.«dict.fromkeys.loop» ⟨[.ref D, .ref it, .none], []⟩) (fun fin s' => match fin with | .done f => R (.ok f) s' | .again c' => c'.quiet = true ∧ codeAny (model prog w) A c' R s') (fun e s' => R (.error e) s') s := by
  induction k with
  | zero =>
    intro i s hi hit hl hD h
    have hlen := strsLen hv
    unfold Builtin.«dict.fromkeys.loop»
    refine wpAny_bind (wpAny_pyNext_list_end (A := A.in1) hh hit hl (by simp; omega) fun h₁ hx => ?_)
    refine wpAny_pure (h _ _ (fun b o h1 _ e => hx b o h1 e) ?_)
    rw [List.take_of_length_le (by omega)] at hD
    exact hD.extBut hx hne
  | succ k ih =>
    intro i s hi hit hl hD h
    have hlen := strsLen hv
    have hlt : i < xs.length := by omega
    obtain ⟨v, hvi⟩ : ∃ v, vs[i]? = some v := ⟨_, List.getElem?_eq_getElem (by omega)⟩
    obtain ⟨x, t, rfl, hx⟩ := strsAt hv i v hvi
    unfold Builtin.«dict.fromkeys.loop»
    refine wpAny_bind (wpAny_pyNext_list_item hit hl (x := .str x t) (by simpa using hvi) fun h₁ hit₁ hs₁ => ?_)
    have hD₁ := hD.sameBut hs₁ hne
    dsimp only
    refine wpAny_bind (wpAny_typeOf (s := { s with heap := h₁ }) hD₁.typeIs ?_)
    rw [if_pos (by decide)]
    refine wpAny_bind (m := Builtin.Dict.addrOf _) (wpAny_pure (wpAny_bind (wpAny_holding (wpAny_dictSet_pairs (s := { s with heap := h₁ }) (k := x) (by show Value.isStrOf x (.str x t) = true; simp [Value.isStrOf]) hD₁ (fun h₂ hD₂ hs₂ => ?_) ?_))))
    · refine wpAny_pure ⟨plainId_quiet fk_plainL _, codeAny_builtin fk_entryL ?_⟩
      rw [Around.under_plainId fk_plainL _]
      refine ih (i + 1) { s with heap := h₂, toks := _ } (by omega) ?_ ?_ ?_ ?_
      · obtain ⟨o, e, r⟩ := hit₁
        exact ⟨o, (hs₂.2 it (Ne.symm hne)).trans e, r⟩
      · obtain ⟨o, e, r⟩ := hl
        exact ⟨o, (hs₂.2 l (Ne.symm hDl)).trans ((hs₁.2 l hneL).trans e), r⟩
      · rw [stored_none, ← onceG_take hx] at hD₂
        exact hD₂
      · intro h' tk hk hD'
        exact h h' tk (fun b o h1 h2 e => hk b o h1 h2 ((hs₂.2 b h2).trans ((hs₁.2 b h1).trans e))) hD'
    · rw [List.length_map]
      have := onceG_len (xs.take i)
      have := @List.length_take _ i xs
      rw [sizeLine_eq]; omega
/-- dict.fromkeys of a list of texts -/
theorem fk_strs {x l : Addr} {s : Shared} {vs : List Value} {xs : List Str} {Q : Value → Shared → Prop} (hh : A.handled = none) (ho : s.heap.get? x = some fkBound) (hl : s.heap.IsList l vs.toArray) (hv : StrsAre vs xs) (hz : xs.length ≤ 1000)
    (h : ∀ h' tk D, Kp s.heap h' → s.heap.objs.size ≤ D → s.heap.get? D = none → h'.DictOf (PySem.strKind prog w) D ((onceG xs).map fun x => (x, Value.none)) → Q (.ref D) { s with heap := h', toks := tk }) :
    wpAny (model prog w) A (call (.ref x) [.ref l]) Q E s := by
  refine fk_call ho (codeAny_builtin fk_entry ?_)
  rw [Around.under_plainId fk_plain _]
  unfold Builtin.«dict.fromkeys»
  refine wpAny_bind (wpAny_of_eq (a := true) fk_isType ?_)
  refine KFB.if_not rfl ?_
  refine wpAny_bind (wpAny_of_eq (a := true) F.kt_sub_dict ?_)
  refine KFB.if_not rfl ?_
  refine KFB.if_not rfl ?_
  refine wpAny_bind (wpAny_rule (wpAny_bind (wpAny_pure ?_)))
  dsimp only
  refine wpAny_bind (fk_call0 ?_)
  have hnew : (s.heap.push { cls := .type "dict", data := .dict #[] }).DictOf (PySem.strKind prog w) s.heap.objs.size [] := Heap.DictOf.new s.heap
  have hl₁ : (s.heap.push { cls := .type "dict", data := .dict #[] }).IsList l vs.toArray := hl.push _
  have hlt : l < s.heap.objs.size := by obtain ⟨_, e, _⟩ := hl; exact Heap.lt_size e
  refine wpAny_holding ?_
  refine wpAny_bind (wpAny_typeOf (s := { s with heap := s.heap.push { cls := .type "dict", data := .dict #[] } }) hl₁.typeIs ?_)
  refine wpAny_bind (wpAny_typeOf (s := { s with heap := s.heap.push { cls := .type "dict", data := .dict #[] } }) hnew.typeIs ?_)
  refine KFB.if_not (by decide) ?_
  refine wpAny_bind (wpAny_typeOf (s := { s with heap := s.heap.push { cls := .type "dict", data := .dict #[] } }) hnew.typeIs ?_)
  refine KFB.if_not (by decide) ?_
  refine wpAny_bind (wpAny_pyIter_list (s := { s with heap := s.heap.push { cls := .type "dict", data := .dict #[] } }) hl₁ ?_)
  refine wpAny_pure ⟨plainId_quiet fk_plainL _, codeAny_builtin fk_entryL ?_⟩
  rw [Around.under_plainId fk_plainL _]
  refine fk_loopS (A := A) hh hv hz ?_ ?_ ?_ xs.length 0 _ (by omega) ⟨_, Heap.get?_push_size _ rfl, rfl, rfl⟩ (hl₁.push _) (hnew.push _) ?_
  · show (@Ne Nat s.heap.objs.size (s.heap.push _).objs.size)
    rw [Heap.size_push]; exact Nat.ne_of_lt (Nat.lt_succ_self _)
  · show (@Ne Nat l (s.heap.push _).objs.size)
    rw [Heap.size_push]; exact Nat.ne_of_lt (Nat.lt_succ_of_lt hlt)
  · exact Nat.ne_of_gt hlt
  · intro h' tk hk hD
    refine h h' tk _ (fun b o e => ?_) (Nat.le_refl _) (Heap.get?_none_of_le (Nat.le_refl _)) hD
    have hb := Heap.lt_size e
    exact hk b o (by rw [Heap.size_push]; exact Nat.ne_of_lt (Nat.lt_succ_of_lt hb)) (Nat.ne_of_lt hb) (Heap.get?_push_of_some _ (Heap.get?_push_of_some _ e))
end

theorem list_unhash : typeLookup (.type "list") "__hash__" = pure (some .none) := by rw [typeLookup_type, builtinLookup_eq_fast]; kernel_rfl
section
variable {prog : Program} {w : World} {A : Around} {E : Value → Shared → Prop}
theorem hash_list {a : Addr} {s : Shared} {Q : Int → Shared → Prop} (hh : A.handled = none) (hu : A.units < cLine) (hT : s.TypeIs (.ref a) "list") (h : ∀ h' tk e, Heap.NewExc s.heap h' e "TypeError" → E (.ref e) { s with heap := h', toks := tk }) :
    wpAny (model prog w) A (pyHash (.ref a)) Q E s := by
  unfold pyHash pyHashByItsType
  refine wpAny_bind (wpAny_cRoomFor_or (.inr hu) ?_)
  refine wpAny_bind (wpAny_specialOf hT list_unhash ?_)
  rw [if_pos (by decide)]
  refine wpAny_bind (wpAny_rule ?_)
  refine wpAny_bind (wpAny_typeNameOf' hT (by decide) ?_)
  refine wpAny_bind ?_
  exact wpAny_raiseErrorMade plainExc_TypeError hh h (by rw [sizeLine_eq]; decide +kernel)
/-- dict.fromkeys of a list whose first item is a list -/
theorem fk_raise {x l a : Addr} {s : Shared} {vs : List Value} {Q : Value → Shared → Prop} (hh : A.handled = none) (hu : A.units + 100 < cLine) (ho : s.heap.get? x = some fkBound) (hl : s.heap.IsList l (.ref a :: vs).toArray) (ha : s.TypeIs (.ref a) "list")
    (h : ∀ h' tk e, Heap.NewExc s.heap h' e "TypeError" → E (.ref e) { s with heap := h', toks := tk }) :
    wpAny (model prog w) A (call (.ref x) [.ref l]) Q E s := by
  refine fk_call ho (codeAny_builtin fk_entry ?_)
  rw [Around.under_plainId fk_plain _]
  unfold Builtin.«dict.fromkeys»
  refine wpAny_bind (wpAny_of_eq (a := true) fk_isType ?_)
  refine KFB.if_not rfl ?_
  refine wpAny_bind (wpAny_of_eq (a := true) F.kt_sub_dict ?_)
  refine KFB.if_not rfl ?_
  refine KFB.if_not rfl ?_
  refine wpAny_bind (wpAny_rule (wpAny_bind (wpAny_pure ?_)))
  dsimp only
  refine wpAny_bind (fk_call0 ?_)
  have hnew : (s.heap.push { cls := .type "dict", data := .dict #[] }).DictOf (PySem.strKind prog w) s.heap.objs.size [] := Heap.DictOf.new s.heap
  have hl₁ : (s.heap.push { cls := .type "dict", data := .dict #[] }).IsList l (.ref a :: vs).toArray := hl.push _
  have hlt : l < s.heap.objs.size := by obtain ⟨_, e, _⟩ := hl; exact Heap.lt_size e
  obtain ⟨oa, hoa, hca⟩ := id ha
  have hlta : a < s.heap.objs.size := Heap.lt_size hoa
  refine wpAny_holding ?_
  refine wpAny_bind (wpAny_typeOf (s := { s with heap := s.heap.push { cls := .type "dict", data := .dict #[] } }) hl₁.typeIs ?_)
  refine wpAny_bind (wpAny_typeOf (s := { s with heap := s.heap.push { cls := .type "dict", data := .dict #[] } }) hnew.typeIs ?_)
  refine KFB.if_not (by decide) ?_
  refine wpAny_bind (wpAny_typeOf (s := { s with heap := s.heap.push { cls := .type "dict", data := .dict #[] } }) hnew.typeIs ?_)
  refine KFB.if_not (by decide) ?_
  refine wpAny_bind (wpAny_pyIter_list (s := { s with heap := s.heap.push { cls := .type "dict", data := .dict #[] } }) hl₁ ?_)
  refine wpAny_pure ⟨plainId_quiet fk_plainL _, codeAny_builtin fk_entryL ?_⟩
  rw [Around.under_plainId fk_plainL _]
  have hsz : (s.heap.push { cls := .type "dict", data := .dict #[] }).objs.size = s.heap.objs.size + 1 := Heap.size_push ..
  unfold Builtin.«dict.fromkeys.loop»
  refine wpAny_bind (wpAny_pyNext_list_item (i := 0) (l := l) ⟨_, Heap.get?_push_size _ rfl, rfl, rfl⟩ (hl₁.push _) (x := .ref a) (by simp) fun h₁ hit₁ hs₁ => ?_)
  have hD₁ : h₁.DictOf (PySem.strKind prog w) s.heap.objs.size [] := (hnew.push _).sameBut hs₁ (by show (@Ne Nat _ _); rw [hsz]; exact Nat.ne_of_lt (Nat.lt_succ_self _))
  have up : ∀ b o, s.heap.get? b = some o → h₁.get? b = some o := fun b o e => (hs₁.2 b (by show (@Ne Nat _ _); rw [hsz]; exact Nat.ne_of_lt (Nat.lt_succ_of_lt (Heap.lt_size e)))).trans (Heap.get?_push_of_some _ (Heap.get?_push_of_some _ e))
  dsimp only
  refine wpAny_bind (wpAny_typeOf (s := { s with heap := h₁ }) hD₁.typeIs ?_)
  rw [if_pos (by decide)]
  refine wpAny_bind (m := Builtin.Dict.addrOf _) (wpAny_pure (wpAny_bind (wpAny_holding ?_)))
  unfold dictSet
  try with_reducible refine wpAny_holding ?_
  refine wpAny_bind (hash_list (s := { s with heap := h₁ }) hh ?_ ⟨oa, up _ _ hoa, hca⟩ fun h' tk e hx => ?_)
  · show A.units + _ < cLine
    omega
  · refine h h' tk e ⟨fun b o q => hx.keeps b o (up b o q), ?_, hx.there⟩
    cases hq : s.heap.get? e with
    | none => rfl
    | some o => have := hx.new; rw [show _ = _ from up e o hq] at this; cases this
end

theorem binds_kw {s : Shared} {K : Frag} {fd : FuncData} {args : Args} {binds : List (Str × Value)} {d : Addr} {name : Str} {v : Value} {k : Option Value → Sem (List (Str × Value))} (X : K.In s.heap)
    (e : nsIn K d name = some (some v)) (h₁ : bindArgs fd args = nsGet d name >>= k) (h₂ : k (some v) = pure binds) : BindsTo s fd args binds := by
  intro M A E Q h
  rw [h₁]
  exact wpAny_bind ((looks_nsIn X e).here (by rw [h₂]; exact wpAny_pure h))
section
variable {prog : Program} {w : World} {M : Model} {A : Around} {E : Value → Shared → Prop} {s : Shared}
theorem fk_callWith0 {pos : Pos} {u : Addr} {first : List Value} {args : List (Bool × Sem Value)} {Q : Value → Shared → Prop} (hplain : args.any (·.1) = false)
    (h : wpAny M A (evalArgs (.ref u) true args []) (fun x s₁ => s₁.heap.get? u = some fkBound ∧ wpAny M A (call (.ref u) (first ++ x.pos) x.kw) Q E s₁) E s) : wpAny M A (callWith pos (.ref u) first args []) Q E s := by
  unfold callWith
  refine wpAny_bind (wpAny_holding (wpAny_mono h (fun x s₁ h₁ => wpAny_bind (wpAny_standAt ?_)) fun _ _ x => x))
  obtain ⟨ho, hcall⟩ := h₁
  simp only [hplain, List.any_nil, Bool.or_false]
  refine wpAny_bind (m := keeperOf (.ref u)) ?_
  unfold keeperOf
  refine wpAny_bind (wpAny_load ho ?_)
  simp only [fkBound, show (Value.type "builtin_function_or_method" != Value.type "method") = true by decide, show (Value.type "builtin_function_or_method" == Value.type "builtin_function_or_method" || Value.type "builtin_function_or_method" == Value.type "method-wrapper") = true by decide, if_true]
  refine wpAny_pure ?_
  exact wpAny_bind (wpAny_mono hcall (fun r s₂ hr => wpAny_bind (wpAny_holding (wpAny_point (wpAny_pure hr)))) fun _ _ x => x)
theorem fk_callWith {pos : Pos} {u : Addr} {first : List Value} {env : Env} {e : Expr} {rest : List Expr} {Q : Value → Shared → Prop}
    (h : wpAny M A (spliced (backTo pos (starEach (e :: rest) env))) (fun vs s₁ => Halt (s₁.heap.get? u = some fkBound ∧ wpAny M A (call (.ref u) (first ++ vs)) Q E s₁)) E s)
    (he : starEach (e :: rest) env = (false, eval e env) :: starEach rest env := by rfl) (hplain : (backTo pos (starEach rest env)).any (·.1) = false := by rfl) :
    wpAny M A (callWith pos (.ref u) first (backTo pos (starEach (e :: rest) env)) []) Q E s := by
  rw [he] at h ⊢
  refine fk_callWith0 (by show (false || (backTo pos (starEach rest env)).any (·.1)) = false; rw [hplain]; rfl) ?_
  exact evalArgs_plain h
end
section
local macro_rules | `(tactic| walk_at "getMethod type:dict") => `(tactic| refine halt_of ?_)
local macro_rules | `(tactic| walk_at "callWith ref") => `(tactic| (refine fk_callWith ?_))
theorem dd_strs {w : World} {mean : ExcName → Option Value} {mg mb : Str → Option Value} {s : Shared} {Q E : Value → Shared → Prop} {l : Addr} {vs : List Value} {xs : List Str}
    (X : (hd.heap_39 w.params).In s.heap) (T : Tp mean mg mb s.heap) (hl : s.heap.IsList l vs.toArray) (hv : StrsAre vs xs) (hz : xs.length ≤ 50)
    (h : ∀ h' tk D, Kp s.heap h' → (D == sysModules) = false → s.heap.get? D = none → h'.DictOf (PySem.strKind PySem.Challenge.rw_oy0079_01.row.prog w) D ((onceG xs).map fun x => (x, Value.none)) → Q (.ref D) { s with heap := h', toks := tk }) :
    wpAny (Md w) (lv 890 8900) (call (.ref 29) [.ref l]) Q E s := by
  w_on
  k_dflt (refine' enterP (binds := [(Str.ofString "params", .ref l), (Str.ofString "unhashable_fallback", .bool false)]) X T ?ho ?hcd ?hroom ?hb ?hl ?c1 ?c2 ?c3 ?c4 ?_; (case ho => k_is); (case hcd => k_is); (case hroom => exact Nat.le_of_ble_eq_true rfl); (case hl => exact locs rfl); (case c1 => rfl); (case c2 => rfl); (case c3 => rfl); (case c4 => decide))
  · intro M A E Q hQ
    have hn : ∀ (Q : Option Value → Shared → Prop), Q (some (.bool false)) s → wpAny M A (nsGet 22 (Str.ofString "unhashable_fallback")) Q E s := fun Q h => (looks_nsIn X (e := by k_is)).here h
    unfold bindArgs
    simp only [List.map_cons, List.map_nil, List.forIn_nil]
    refine wpAny_bind (wpAny_pure ?_)
    refine wpAny_bind (m := seqItems? _) (wpAny_of_eq (a := none) rfl ?_)
    refine KFB.if_not rfl ?_
    refine KFB.if_not rfl ?_
    refine wpAny_bind (wpAny_of_eq (a := [(Str.ofString "params", Value.ref l)]) rfl ?_)
    refine wpAny_bind ?_
    rw [List.forIn_cons]
    refine wpAny_bind ?_
    refine KFB.if_so rfl ?_
    refine wpAny_bind (hn _ ?_)
    refine wpAny_pure ?_
    dsimp only
    rw [List.forIn_nil]
    refine wpAny_pure ?_
    refine KFB.if_not rfl ?_
    exact wpAny_pure hQ
  · intro L h₁ F N
    walk_at "m steps"
    refine Halt.on (fk_getm F N X (by k_is) ?_)
    intro x h2 F2 N2 lt2
    clear F N
    walk_at "m steps"
    refine Halt.on ⟨N2.get (.head _), ?_⟩
    refine fk_strs rfl (N2.get (.head _)) (hl.at fun o e => F2.keep _ o e) hv (by omega) ?_
    intro h3 tk3 D k3 hDz hD3 hd3
    have lo : (D == sysModules) = false := by
      have h29 : ∃ o, (hd.heap_39 w.params).lookup 29 = some o := ⟨_, by k_is⟩
      obtain ⟨o, e⟩ := h29
      have := Heap.lt_size (F2.keep _ _ (X _ _ e))
      have h1 : 29 < D := Nat.lt_of_lt_of_le this hDz
      exact beq_eq_false_iff_ne.mpr (Nat.ne_of_gt (Nat.lt_trans (by decide : (1 : Nat) < 29) h1))
    walk_at "m steps"
    exact h _ _ _ (Kp.trans F2.keep k3) lo (TI.none_of F2.keep hD3) hd3
end

open TI in
section
variable {prog : Program} {w : World} {M : Model} {A A₀ : Around} {E : Value → Shared → Prop} {s' : Shared} {hb h : Heap} {L a e : Addr} {m : Str → Option Value} {name : Str} {scope : Scope} {cd : Value} {l : List Env} {frs new : List (Addr × Obj)} {oe : Obj} {vs : Array Value}
/-- a new entry of a traceback: what it turns stands in the ledger -/
theorem entry_led {head : Value} {hadNext : Bool} {Q : Unit → Shared → Prop} (hfr : A₀.frames = some l) (Fs : Frs l frs) (F : Fr hb L s'.heap m) (N : News hb L s'.heap ((e, oe) :: (new ++ frs))) (hd : oe.data = .fields vs) (hsz : 1 < vs.size) (hap : ∀ p ∈ new, p.1 ∉ L :: frs.map (·.1)) (hne : ∀ p ∈ new ++ frs, p.1 ≠ e)
    (k : ∀ h' frs' T oe' oT ts, SameUp frs frs' → Frs l frs' → Fr hb L h' m → News hb L h' ((e, oe') :: (T, oT) :: (new ++ frs')) → oe'.cls = oe.cls → oe'.data = .fields (vs.setIfInBounds 1 (.ref T)) → oT.data = .fields ts → ts[3]? = some (rawInt L) → s'.heap.get? T = none → Q () { s' with heap := h' }) (hk : scope.kind = .function := by rfl) :
    wpAny M (A₀.deeper (envOf name scope L a cd)) (do let f ← frameOf (envOf name scope L a cd); let pl ← entryPlaceOf L hadNext; let b ← EntryCells.newEntry head f .none (rawInt L) .none pl; setField (.ref e) 1 b) Q E s' := by
  have he := (N _ (.head _)).1
  have Nr : News hb L s'.heap (new ++ frs) := fun p hp => N p (.tail _ hp)
  obtain ⟨hff, hNs, frs₁, SU₁, ht₁⟩ := frames_at (name := name) (a := a) (cd := cd) (h' := s'.heap) (base := gone s'.heap (L :: frs.map (·.1))) hk Fs F Nr tail_sub (fun b o hb' => ⟨o.slots, hb'⟩) fun b hm => gone_none hm
  have hfa : (envOf name scope L a cd :: l).filterMap (·.frame) = L :: frs.map (·.1) := frames_are Fs
  have heF : e ∉ L :: frs.map (·.1) := fun hm => by
    rcases List.mem_cons.mp hm with q | hm
    · exact (N _ (.head _)).2.1 q
    · obtain ⟨p, hp, q⟩ := List.mem_map.mp hm
      exact hne p (List.mem_append_right _ hp) q
  refine wpAny_bind (wpAny_frameOf_fun (Around.frames_deeper hfr) hff rfl fun h₁ hs₁ => ?_)
  rw [hfa] at hs₁
  refine wpAny_bind (wpAny_entryPlaceOf fun pl hpl => ?_)
  unfold EntryCells.newEntry newFields
  refine wpAny_bind (wpAny_newObj_type ?_ (hpl.sizeOk5 _ _ _ _ _))
  have he₁ : h₁.get? e = some oe := (hs₁.2.1 e heF).trans he
  generalize hoT : ({ cls := .type "traceback", dict := none, data := .fields ([head, .ref L, .none, rawInt L, .none] ++ (if pl.isEmpty then List.replicate 6 Value.none else pl)).toArray } : Obj) = oT
  have he₂ := Heap.get?_push_of_some (h := h₁) oT he₁
  refine wpAny_setField he₂ hd hsz ?_
  have hTe : h₁.objs.size ≠ e := Nat.ne_of_gt (Heap.lt_size he₁)
  have hTn : s'.heap.get? h₁.objs.size = none := by
    rw [hs₁.1]; exact Heap.get?_none_of_le (Nat.le_refl _)
  have hd₃ := Obj.data_mapFields hd (·.setIfInBounds 1 (Value.ref h₁.objs.size))
  have he₃ := Heap.get?_update_self (Obj.mapFields (·.setIfInBounds 1 (Value.ref h₁.objs.size))) he₂ (Obj.isFreed_of_fields hd₃)
  have hT₃ := (Heap.get?_update_other (h₁.push oT) (Obj.mapFields (·.setIfInBounds 1 (Value.ref h₁.objs.size))) (Ne.symm hTe)).trans (Heap.get?_push_size h₁ (by rw [← hoT]; rfl))
  have keep : ∀ b o, b ≠ e → h₁.get? b = some o → ((h₁.push oT).update e (Obj.mapFields (·.setIfInBounds 1 (Value.ref h₁.objs.size)))).get? b = some o := fun b o hbe hb => by
    rw [Heap.get?_update_other _ _ (Ne.symm hbe)]
    exact Heap.get?_push_of_some _ hb
  have slots : ∀ b o, b ≠ e → s'.heap.get? b = some o → ∃ sl, ((h₁.push oT).update e (Obj.mapFields (·.setIfInBounds 1 (Value.ref h₁.objs.size)))).get? b = some { o with slots := sl } := fun b o hbe hb => by
    obtain ⟨sl, e1⟩ := hs₁.2.2 b o hb
    exact ⟨sl, keep b _ hbe e1⟩
  have same : ∀ b o, b ≠ e → b ∉ L :: frs.map (·.1) → s'.heap.get? b = some o → ((h₁.push oT).update e (Obj.mapFields (·.setIfInBounds 1 (Value.ref h₁.objs.size)))).get? b = some o := fun b o hbe hbF hb => keep b o hbe ((hs₁.2.1 b hbF).trans hb)
  have hLe : L ≠ e := fun q => heF (q ▸ .head _)
  obtain ⟨oL, es, ep, hL, hLd, r⟩ := F.ns
  obtain ⟨slL, hL'⟩ := slots L oL hLe hL
  obtain ⟨frs₂, SU₂, ht₂⟩ := sameUp_of (h' := ((h₁.push oT).update e (Obj.mapFields (·.setIfInBounds 1 (Value.ref h₁.objs.size))))) fun p hp => slots p.1 p.2 (hne p (List.mem_append_right _ hp)) (Nr p (List.mem_append_right _ hp)).1
  have hTh : hb.get? h₁.objs.size = none := none_of F.keep hTn
  refine k _ frs₂ h₁.objs.size _ oT _ SU₂ (Fs.up SU₂) ⟨⟨_, es, ep, hL', hLd, r⟩, fun b o ho => ?_, F.above⟩ (fun p hp => ?_) (Obj.cls_mapFields _ _) hd₃ (by rw [← hoT]) (by simp) hTn
  · refine same b o (fun q => ?_) (base_apart F Nr tail_sub ho) (F.keep b o ho)
    rw [q, (N _ (.head _)).2.2] at ho
    cases ho
  · rcases List.mem_cons.mp hp with rfl | hp
    · exact ⟨he₃, (N _ (.head _)).2⟩
    · rcases List.mem_cons.mp hp with rfl | hp
      · refine ⟨hT₃, fun q => ?_, hTh⟩
        have q' : h₁.objs.size = L := q
        rw [q', hL] at hTn
        cases hTn
      · rcases List.mem_append.mp hp with hp | hp
        · obtain ⟨p1, p2, p3⟩ := Nr p (List.mem_append_left _ hp)
          exact ⟨same p.1 p.2 (hne p (List.mem_append_left _ hp)) (hap p hp) p1, p2, p3⟩
        · obtain ⟨x, hx, q⟩ := SU₂.fwd p hp
          obtain ⟨_, p2, p3⟩ := Nr x (List.mem_append_right _ hx)
          exact ⟨ht₂ p hp, by rw [q]; exact p2, by rw [q]; exact p3⟩
/-- what flies is set down, or taken up: the newest entry's mark -/
theorem flight_led {T : Addr} {oT : Obj} {ts : Array Value} {fl : Option Addr} {rest : List (Addr × Obj)} {Q : Unit → Shared → Prop} (F : Fr hb L s'.heap m) (N : News hb L s'.heap ((e, oe) :: (T, oT) :: rest)) (hd : oe.data = .fields vs) (hv : vs[1]? = some (.ref T)) (hT : oT.data = .fields ts) (hsz : 3 < ts.size) (hTe : (@Ne Nat T e)) (hne : ∀ p ∈ rest, p.1 ≠ T)
    (k : ∀ h' oT', Fr hb L h' m → News hb L h' ((e, oe) :: (T, oT') :: rest) → oT'.data = .fields (ts.setIfInBounds 3 (fl.elim .none fun f => rawInt f)) → Q () { s' with heap := h' }) :
    wpAny M A (setFlight (.ref e) fl) Q E s' := by
  have he := (N _ (.head _)).1
  obtain ⟨hT1, hT2, hT3⟩ := N _ (.tail _ (.head _))
  unfold setFlight
  refine wpAny_bind (wpAny_field he hd hv ?_)
  rw [if_pos (show (Value.ref T != Value.none) = true from by simp)]
  refine wpAny_setField hT1 hT hsz ?_
  have other : ∀ b, b ≠ T → (s'.heap.update T (Obj.mapFields (·.setIfInBounds 3 (fl.elim .none fun f => rawInt f)))).get? b = s'.heap.get? b := fun b hb => Heap.get?_update_other _ _ (Ne.symm hb)
  obtain ⟨oL, es, ep, hL, r⟩ := F.ns
  refine k _ _ ⟨⟨oL, es, ep, (other L (Ne.symm hT2)).trans hL, r⟩, fun b o ho => (other b fun q => ?_).trans (F.keep b o ho), F.above⟩ (fun p hp => ?_) (Obj.data_mapFields hT (·.setIfInBounds 3 (fl.elim .none fun f => rawInt f)))
  · have q' : b = T := q
    rw [q', show hb.get? T = none from hT3] at ho; cases ho
  · rcases List.mem_cons.mp hp with rfl | hp
    · exact ⟨(other e (Ne.symm hTe)).trans he, (N _ (.head _)).2⟩
    · rcases List.mem_cons.mp hp with rfl | hp
      · exact ⟨Heap.get?_update_self _ hT1 (Obj.isFreed_of_fields (Obj.data_mapFields hT _)), hT2, hT3⟩
      · exact ⟨(other p.1 (hne p hp)).trans (N p (.tail _ (.tail _ hp))).1, (N p (.tail _ (.tail _ hp))).2⟩
end

open TI in
section
variable {prog : Program} {w : World} {M : Model} {A A₀ : Around} {E : Value → Shared → Prop} {s' : Shared} {hb h : Heap} {L a e T : Addr} {m : Str → Option Value} {name : Str} {scope : Scope} {cd : Value} {l : List Env} {frs new rest : List (Addr × Obj)} {oe oT : Obj} {vs ts : Array Value}
theorem noted_led {X : String} {Q : Unit → Shared → Prop} (hfr : A₀.frames = some l) (Fs : Frs l frs) (hx : Heap.NewExc h s'.heap e X) (F : Fr hb L h m) (N : News hb L h (new ++ frs)) (hap : ∀ p ∈ new, p.1 ∉ L :: frs.map (·.1))
    (k : ∀ h' frs' T oe oT tp ts, SameUp frs frs' → Frs l frs' → Fr hb L h' m → News hb L h' ((e, oe) :: (T, oT) :: (new ++ frs')) → oe.cls = .type X → oe.data = .fields #[tp, .ref T, .none, .none, .bool false, .none] → oT.data = .fields ts → ts[3]? = some (rawInt L) → h.get? T = none → h.get? e = none → (@Ne Nat T e) → Q () { s' with heap := h' }) (hk : scope.kind = .function := by rfl) :
    wpAny M (A₀.deeper (envOf name scope L a cd)) (noteFrame (.ref e) (envOf name scope L a cd)) Q E s' := by
  obtain ⟨ob, tp, he, hcls, hd⟩ := hx.there
  obtain ⟨F1, N1⟩ := addNew F N hx.keeps hx.new he
  have hne := newsLt N hx.new
  unfold noteFrame
  simp only [show (envOf name scope L a cd).frame = some L from rfl]
  refine wpAny_bind (wpAny_field he hd (x := .none) rfl ?_)
  rw [if_neg (by decide)]
  refine entry_led hfr Fs F1 N1 hd (Nat.le_of_ble_eq_true rfl) hap hne (fun h' frs' T oe' oT ts SU Fs' F' N' c1 c2 c3 c4 c5 => ?_) hk
  have hTh : h.get? T = none := none_of hx.keeps c5
  exact k h' frs' T oe' oT tp ts SU Fs' F' N' (c1.trans hcls) c2 c3 c4 hTh hx.new (fun q => by rw [show T = e from q, he] at c5; cases c5)
theorem noted_again {Q : Unit → Shared → Prop} (N : News hb L s'.heap ((e, oe) :: (T, oT) :: rest)) (hd : oe.data = .fields vs) (hv : vs[1]? = some (.ref T)) (hT : oT.data = .fields ts) (h3 : ts[3]? = some (rawInt L)) (h : Q () s') :
    wpAny M A (noteFrame (.ref e) (envOf name scope L a cd)) Q E s' := by
  unfold noteFrame
  simp only [show (envOf name scope L a cd).frame = some L from rfl]
  refine wpAny_bind (wpAny_field (N _ (.head _)).1 hd hv ?_)
  rw [if_pos (show (Value.ref T != Value.none) = true from by simp)]
  refine wpAny_bind (wpAny_field (N _ (.tail _ (.head _))).1 hT h3 ?_)
  rw [if_pos (show (rawInt L == rawInt L) = true from by simp)]
  exact wpAny_pure h
theorem noted_more {Q : Unit → Shared → Prop} (hfr : A₀.frames = some l) (Fs : Frs l frs) (F : Fr hb L s'.heap m) (N : News hb L s'.heap ((e, oe) :: (T, oT) :: frs)) (hd : oe.data = .fields vs) (hv : vs[1]? = some (.ref T)) (hT : oT.data = .fields ts) (h3 : ts[3]? = some .none) (hTe : (@Ne Nat T e)) (hTf : ∀ p ∈ frs, p.1 ≠ T) (hef : ∀ p ∈ frs, p.1 ≠ e)
    (k : ∀ h' frs' T' oe' oT' ts', SameUp frs frs' → Frs l frs' → Fr hb L h' m → News hb L h' ((e, oe') :: (T', oT') :: frs') → oe'.cls = oe.cls → oe'.data = .fields (vs.setIfInBounds 1 (.ref T')) → oT'.data = .fields ts' → ts'[3]? = some (rawInt L) → (@Ne Nat T' e) → (∀ p ∈ frs', p.1 ≠ T') → Q () { s' with heap := h' }) (hk : scope.kind = .function := by rfl) :
    wpAny M (A₀.deeper (envOf name scope L a cd)) (noteFrame (.ref e) (envOf name scope L a cd)) Q E s' := by
  have hT1 := N _ (.tail _ (.head _))
  unfold noteFrame
  simp only [show (envOf name scope L a cd).frame = some L from rfl]
  refine wpAny_bind (wpAny_field (N _ (.head _)).1 hd hv ?_)
  rw [if_pos (show (Value.ref T != Value.none) = true from by simp)]
  refine wpAny_bind (wpAny_field hT1.1 hT h3 ?_)
  rw [if_neg (show ¬ ((Value.none == rawInt L) = true) from by simp [rawInt])]
  have hsz : 3 < ts.size := (Array.getElem?_eq_some_iff.mp h3).1
  refine wpAny_bind (wpAny_setField hT1.1 hT hsz ?_)
  have other : ∀ b, b ≠ T → (s'.heap.update T (Obj.mapFields (·.setIfInBounds 3 Value.none))).get? b = s'.heap.get? b := fun b hb => Heap.get?_update_other _ _ (Ne.symm hb)
  obtain ⟨oL, es, ep, hL, r⟩ := F.ns
  have F1 : Fr hb L (s'.heap.update T (Obj.mapFields (·.setIfInBounds 3 Value.none))) m := ⟨⟨oL, es, ep, (other L (Ne.symm hT1.2.1)).trans hL, r⟩, fun b o ho => (other b fun q => by rw [show b = T from q, show hb.get? T = none from hT1.2.2] at ho; cases ho).trans (F.keep b o ho), F.above⟩
  have N1 : News hb L (s'.heap.update T (Obj.mapFields (·.setIfInBounds 3 Value.none))) ((e, oe) :: ([] ++ frs)) := fun p hp => by
    rcases List.mem_cons.mp hp with rfl | hp
    · exact ⟨(other e (Ne.symm hTe)).trans (N _ (.head _)).1, (N _ (.head _)).2⟩
    · exact ⟨(other p.1 (hTf p hp)).trans (N p (.tail _ (.tail _ hp))).1, (N p (.tail _ (.tail _ hp))).2⟩
  have hv1 : 1 < vs.size := (Array.getElem?_eq_some_iff.mp hv).1
  refine entry_led (s' := { s' with heap := _ }) (new := []) hfr Fs F1 N1 hd hv1 (fun p hp => nomatch hp) (fun p hp => hef p hp) (fun h' frs' T' oe' oT' ts' SU Fs' F' N' c1 c2 c3 c4 c5 => ?_) hk
  refine k h' frs' T' oe' oT' ts' SU Fs' F' N' c1 c2 c3 c4 (fun q => ?_) (fun p hp q => ?_)
  · have z := (N1 _ (.head _)).1
    rw [show e = T' from q.symm] at z
    rw [show _ = _ from c5] at z; cases z
  · obtain ⟨x, hx, q'⟩ := SU.fwd p hp
    have z := (N1 x (.tail _ hx)).1
    rw [← q', q] at z
    rw [show _ = _ from c5] at z; cases z

theorem clause_led {X : String} {x : Str} {b₀ : Stmt} {suite : List Stmt} {pos np : Pos} {rest' : List ExceptHandler} {p : Program} {loose : List Str} {mean : ExcName → Option Value} {mg mb : Str → Option Value} {Q : Flow → Shared → Prop} (F : Fr hb L s'.heap m) (N : News hb L s'.heap ((e, oe) :: (T, oT) :: rest)) (hc : oe.cls = .type X) (hd : oe.data = .fields vs) (hv : vs[1]? = some (.ref T)) (hT : oT.data = .fields ts) (hsz : 3 < ts.size) (hTe : (@Ne Nat T e)) (hne : ∀ p ∈ rest, p.1 ≠ T)
    (Tt : Top p loose mean mg mb hb)
    (k : ∀ h' oT', Fr hb L h' m → News hb L h' ((e, oe) :: (T, oT') :: rest) → oT'.data = .fields (ts.setIfInBounds 3 .none) →
      wpAny (model prog w) ((A₀.deeper (envOf name scope L a cd)).mark (some (.ref e))) (execs (b₀ :: suite) (envOf name scope L a cd)) Q (notedBy (model prog w) ((A₀.deeper (envOf name scope L a cd)).mark (some (.ref e))) (envOf name scope L a cd) (cameBackBy (model prog w) (A₀.deeper (envOf name scope L a cd)) (envOf name scope L a cd) E)) { s' with heap := h' })
    (t1 : x ∉ startupNames := by decide +kernel) (t2 : x ∉ loose := by decide +kernel) (t3 : x ∉ (recsOf p).map (·.name) := by decide +kernel) (t4 : x ∉ (litsOf p).map (·.1) := by decide +kernel) (t5 : x ∉ (clssOf p loose).map (·.name) := by decide +kernel)
    (h3 : subB X (.type x.toString) = some true := by decide +kernel) (hbv : bootBuiltins x = some (.type x.toString) := by decide +kernel) (h1 : subB x.toString (.type "BaseException") = some true := by decide +kernel)
    (h2 : subB ((Manifest.find? x.toString).elim "type" fun y => y.metatype) (.type "tuple") = some false := by decide +kernel) (hn : x ≠ "__name__" := by decide)
    (hk : scope.kind = .function := by rfl) (hxk : (envOf name scope L a cd).kindOf x = some .globalImplicit := by rfl) (hdb : (x == ("__debug__" : Str)) = false := by decide) :
    wpAny (model prog w) (A₀.deeper (envOf name scope L a cd)) (handleBy (.ref e) (envOf name scope L a cd) (.ExceptHandler (some (.Name x np)) none (b₀ :: suite) pos :: rest')) Q E s' := by
  refine wpAny_handleBy_builtin (X := X) (T := x.toString) (b := true) (isSubtype_of_subB h1) (isSubtype_of_subB h2) (isSubtype_of_subB h3) (TT.class_top F Tt t1 t2 t3 t4 t5 hbv ⟨rfl, ⟨oe, (N _ (.head _)).1, hc⟩, ?_⟩ hn hk hxk hdb)
  rw [if_pos rfl]
  exact flight_led F N hd hv hT hsz hTe hne k
theorem raise_led {pos : Pos} {Q : Flow → Shared → Prop} (F : Fr hb L s'.heap m) (N : News hb L s'.heap ((e, oe) :: (T, oT) :: rest)) (hd : oe.data = .fields vs) (hv : vs[1]? = some (.ref T)) (hT : oT.data = .fields ts) (hsz : 3 < ts.size) (hTe : (@Ne Nat T e)) (hne : ∀ p ∈ rest, p.1 ≠ T)
    (k : ∀ h' oT' ts', Fr hb L h' m → News hb L h' ((e, oe) :: (T, oT') :: rest) → oT'.data = .fields ts' → ts'[3]? = some (rawInt L) → E (.ref e) { s' with heap := h' }) :
    wpAny (model prog w) ((A₀.deeper (envOf name scope L a cd)).mark (some (.ref e))) (exec (.Raise none none pos) (envOf name scope L a cd)) Q (notedBy (model prog w) ((A₀.deeper (envOf name scope L a cd)).mark (some (.ref e))) (envOf name scope L a cd) (cameBackBy (model prog w) (A₀.deeper (envOf name scope L a cd)) (envOf name scope L a cd) E)) s' := by
  rw [arm_exec_Raise]
  refine wpAny_bind (wpAny_standAt ?_)
  unfold raiseStmt
  dsimp only [evalOpt, Option.map]
  refine wpAny_bind (wpAny_handled ?_)
  show wpAny _ _ (rule "raise.bare" >>= _) _ _ _
  refine wpAny_bind (wpAny_rule ?_)
  refine wpAny_bind (wpAny_field (N _ (.head _)).1 hd hv ?_)
  rw [if_neg (show ¬ ((Value.ref T == Value.none) = true) from by simp)]
  refine wpAny_bind (flight_led (fl := some L) F N hd hv hT hsz hTe hne fun h1 oT1 F1 N1 d1 => wpAny_throw ?_)
  refine noted_again N1 hd hv d1 (by simp [hsz]) ?_
  refine wpAny_bind (wpAny_field (N1 _ (.head _)).1 hd hv ?_)
  rw [if_neg (show ¬ ((Value.ref T == Value.none) = true) from by simp)]
  refine flight_led (fl := some L) F1 N1 hd hv d1 (by simpa using hsz) hTe hne fun h2 oT2 F2 N2 d2 => ?_
  exact k h2 oT2 _ F2 N2 d2 (by simp [hsz])
theorem leave_led {Q : Unit → Shared → Prop} (F : Fr hb L s'.heap m) (N : News hb L s'.heap ((e, oe) :: (T, oT) :: rest)) (hd : oe.data = .fields vs) (hv : vs[1]? = some (.ref T)) (hT : oT.data = .fields ts) (h3 : ts[3]? = some (rawInt L)) (hTe : (@Ne Nat T e)) (hne : ∀ p ∈ rest, p.1 ≠ T)
    (k : ∀ h' oT' ts', Fr hb L h' m → News hb L h' ((e, oe) :: (T, oT') :: rest) → oT'.data = .fields ts' → ts'[3]? = some .none → Q () { s' with heap := h' }) :
    wpAny M A (leaving (envOf name scope L a cd) (.ref e)) Q E s' := by
  have hsz : 3 < ts.size := (Array.getElem?_eq_some_iff.mp h3).1
  unfold leaving
  refine wpAny_bind (noted_again N hd hv hT h3 ?_)
  exact flight_led (fl := none) F N hd hv hT hsz hTe hne fun h2 oT2 F2 N2 d2 => k h2 oT2 _ F2 N2 d2 (by simp [hsz])
end

theorem KpF.thenKp {frs : List (Addr × Obj)} {h h' h'' : Heap} (x : KpF frs h h') (k : Kp h' h'') : KpF frs h h'' :=
  ⟨fun b o hb e => k b o (x.1 b o hb e), let ⟨frs', SU, g⟩ := x.2; ⟨frs', SU, fun p hp => k _ _ (g p hp)⟩⟩
theorem freshK {frs : List (Addr × Obj)} {h h' : Heap} {r : Addr} (x : KpF frs h h') (hr : h'.get? r = none) : h.get? r = none := by
  cases hq : h.get? r with
  | none => rfl
  | some o =>
    by_cases hm : r ∈ frs.map (·.1)
    · obtain ⟨p, hp, q⟩ := List.mem_map.mp hm
      obtain ⟨frs', SU, g⟩ := x.2
      obtain ⟨sl, hs⟩ := SU.back p hp
      have := g _ hs
      rw [show p.1 = r from q] at this
      rw [show _ = _ from hr] at this; cases this
    · have := x.1 r o hm hq
      rw [hr] at this; cases this
section
local macro_rules | `(tactic| walk_at "getMethod type:dict") => `(tactic| refine halt_of ?_)
local macro_rules | `(tactic| walk_at "callWith ref") => `(tactic| (refine fk_callWith ?_))
local macro_rules | `(tactic| walk_at "exec Raise none none") => `(tactic| refine halt_of ?_)
open TI in
theorem dd_true {w : World} {mean : ExcName → Option Value} {mg mb : Str → Option Value} {s : Shared} {Q E : Value → Shared → Prop} {l : Addr} {vs : List Value} {ns : List Int} {ds : List D} {ll : List Env} {frs : List (Addr × Obj)}
    (Fs : Frs ll frs) (hfr : ∀ p ∈ frs, s.heap.get? p.1 = some p.2)
    (X : (hd.heap_39 w.params).In (gone s.heap (frs.map (·.1)))) (T : Tp mean mg mb (gone s.heap (frs.map (·.1))))
    (hl : (gone s.heap (frs.map (·.1))).IsList l vs.toArray) (hv : AllSees (gone s.heap (frs.map (·.1))) vs (.n ns :: ds)) (hz : ds.length ≤ 50)
    (h : ∀ h' tk r ws n, KpF frs s.heap h' → s.heap.get? r = none → h'.get? r = some (listOf ws.toArray n) → Sub vs (.n ns :: ds) ws (once (.n ns :: ds)) → Q (.ref r) { s with heap := h', toks := tk }) :
    wpAny (Md w) (lvf ll 890 8900) (call (.ref 29) [.ref l] [(Str.ofString "unhashable_fallback", .bool true)]) Q E s := by
  w_on
  k_dflt (refine' enterF (binds := [(Str.ofString "params", .ref l), (Str.ofString "unhashable_fallback", .bool true)]) X T hfr ?ho ?hcd ?hroom ?hb ?hl ?c1 ?c2 ?c3 ?c4 ?_; walk_at "m enter")
  intro L h₁ F N
  walk_at "m steps"
  refine Halt.on (fk_getm F N X (by k_is) ?_)
  intro x h2 F2 N2 lt2
  clear F N
  walk_at "m steps"
  refine Halt.on ⟨N2.get (.head _), ?_⟩
  have hl2 := hl.at fun o e => F2.keep _ o e
  have hv2 := hv.kp F2.keep
  obtain ⟨v, vs', rfl⟩ : ∃ v vs', vs = v :: vs' := by cases hv; exact ⟨_, _, rfl⟩
  obtain ⟨a, rfl, hta⟩ : ∃ a, v = .ref a ∧ ∃ o, h2.get? a = some o ∧ o.cls = .type "list" := by
    cases hv2 with | cons q _ => obtain ⟨a, _, _, q1, q2, _⟩ := q; exact ⟨a, q1, _, q2, rfl⟩
  refine fk_raise rfl (Nat.le_of_ble_eq_true rfl) (N2.get (.head _)) hl2 hta ?_
  intro h3 tk3 e hx
  refine noted_led (l := ll) (frs := frs) (new := []) rfl Fs hx F2 (fun p hp => N2 p (.tail _ hp)) (fun p hp => nomatch hp) ?_
  intro h4 frs4 Te oe oT tp ts SU Fs4 F4 N4 c1 c2 c3 c4 c5 c6 c7
  have hsz : 3 < ts.size := (Array.getElem?_eq_some_iff.mp c4).1
  have hneT : ∀ p ∈ [] ++ frs4, p.1 ≠ Te := fun p hp q => by
    obtain ⟨z, hz, q'⟩ := SU.fwd p hp
    have := (N2 z (.tail _ hz)).1
    rw [← q', q, c5] at this; cases this
  refine flight_led (fl := none) F4 N4 c2 rfl c3 hsz c7 hneT ?_
  intro h5 oT5 F5 N5 d5
  refine clause_led F5 N5 c1 c2 rfl d5 (by simpa using hsz) c7 hneT T ?_
  intro h6 oT6 F6 N6 d6
  clear F4 N4 F5 N5
  walk_at "m steps"
  refine Halt.on (lowerx (dedup_spec (ha := some (.ref e)) (ex := [(e, oe)]) (.inr ⟨e, oe, _, rfl, rfl, c2, rfl⟩) (fun p hp => by rw [List.mem_singleton.mp hp]; exact (N6 _ (.head _)).1) (X.keeps F6.keep) (T.keeps F6.keep) (hl.at fun o e => F6.keep _ o e) (hv.kp F6.keep) (by rw [List.length_cons]; omega) ?_) rfl (Nat.le_of_ble_eq_true rfl) (Nat.le_of_ble_eq_true rfl))
  intro h7 tk7 r ws n k7 hr7 ho7 hs7
  have kf := kpf_of (new := [(e, oe), (Te, oT6)]) rfl F6 N6 SU
  exact h _ _ r ws n (kf.thenKp k7) (freshK kf hr7) ho7 hs7

open TI in
theorem dd_raise {w : World} {mean : ExcName → Option Value} {mg mb : Str → Option Value} {s : Shared} {Q E : Value → Shared → Prop} {l : Addr} {vs : List Value} {ns : List Int} {ds : List D} {ll : List Env} {frs : List (Addr × Obj)}
    (Fs : Frs ll frs) (hfr : ∀ p ∈ frs, s.heap.get? p.1 = some p.2)
    (X : (hd.heap_39 w.params).In (gone s.heap (frs.map (·.1)))) (T : Tp mean mg mb (gone s.heap (frs.map (·.1))))
    (hl : (gone s.heap (frs.map (·.1))).IsList l vs.toArray) (hv : AllSees (gone s.heap (frs.map (·.1))) vs (.n ns :: ds))
    (h : ∀ h' tk e Te oe oT tp ts, KpF frs s.heap h' → s.heap.get? e = none → h'.get? e = some oe → oe.cls = .type "TypeError" → oe.data = .fields #[tp, .ref Te, .none, .none, .bool false, .none] → s.heap.get? Te = none → h'.get? Te = some oT → oT.data = .fields ts → ts[3]? = some .none → (@Ne Nat Te e) → E (.ref e) { s with heap := h', toks := tk }) :
    wpAny (Md w) (lvf ll 890 8900) (call (.ref 29) [.ref l]) Q E s := by
  have X' : (hd.heap_39 w.params).In s.heap := X.keeps fun b o e => (gone_some e).2
  w_on
  k_dflt (refine' enterF (binds := [(Str.ofString "params", .ref l), (Str.ofString "unhashable_fallback", .bool false)]) X T hfr ?ho ?hcd ?hroom ?hb ?hl ?c1 ?c2 ?c3 ?c4 ?_; (case ho => k_is); (case hcd => k_is); (case hroom => exact Nat.le_of_ble_eq_true rfl); (case hl => exact locs rfl); (case c1 => rfl); (case c2 => rfl); (case c3 => rfl); (case c4 => decide))
  · intro M A E Q hQ
    have hn : ∀ (Q : Option Value → Shared → Prop), Q (some (.bool false)) s → wpAny M A (nsGet 22 (Str.ofString "unhashable_fallback")) Q E s := fun Q h => (looks_nsIn X' (e := by k_is)).here h
    unfold bindArgs
    simp only [List.map_cons, List.map_nil, List.forIn_nil]
    refine wpAny_bind (wpAny_pure ?_)
    refine wpAny_bind (m := seqItems? _) (wpAny_of_eq (a := none) rfl ?_)
    refine KFB.if_not rfl ?_
    refine KFB.if_not rfl ?_
    refine wpAny_bind (wpAny_of_eq (a := [(Str.ofString "params", Value.ref l)]) rfl ?_)
    refine wpAny_bind ?_
    rw [List.forIn_cons]
    refine wpAny_bind ?_
    refine KFB.if_so rfl ?_
    refine wpAny_bind (hn _ ?_)
    refine wpAny_pure ?_
    dsimp only
    rw [List.forIn_nil]
    refine wpAny_pure ?_
    refine KFB.if_not rfl ?_
    exact wpAny_pure hQ
  intro L h₁ F N
  walk_at "m steps"
  refine Halt.on (fk_getm F N X (by k_is) ?_)
  intro x h2 F2 N2 lt2
  clear F N
  walk_at "m steps"
  refine Halt.on ⟨N2.get (.head _), ?_⟩
  have hl2 := hl.at fun o e => F2.keep _ o e
  have hv2 := hv.kp F2.keep
  obtain ⟨v, vs', rfl⟩ : ∃ v vs', vs = v :: vs' := by cases hv; exact ⟨_, _, rfl⟩
  obtain ⟨a, rfl, hta⟩ : ∃ a, v = .ref a ∧ ∃ o, h2.get? a = some o ∧ o.cls = .type "list" := by
    cases hv2 with | cons q _ => obtain ⟨a, _, _, q1, q2, _⟩ := q; exact ⟨a, q1, _, q2, rfl⟩
  refine fk_raise rfl (Nat.le_of_ble_eq_true rfl) (N2.get (.head _)) hl2 hta ?_
  intro h3 tk3 e hx
  refine noted_led (l := ll) (frs := frs) (new := []) rfl Fs hx F2 (fun p hp => N2 p (.tail _ hp)) (fun p hp => nomatch hp) ?_
  intro h4 frs4 Te oe oT tp ts SU Fs4 F4 N4 c1 c2 c3 c4 c5 c6 c7
  have hsz : 3 < ts.size := (Array.getElem?_eq_some_iff.mp c4).1
  have hneT : ∀ p ∈ [] ++ frs4, p.1 ≠ Te := fun p hp q => by
    obtain ⟨z, hz, q'⟩ := SU.fwd p hp
    have := (N2 z (.tail _ hz)).1
    rw [← q', q, c5] at this; cases this
  refine flight_led (fl := none) F4 N4 c2 rfl c3 hsz c7 hneT ?_
  intro h5 oT5 F5 N5 d5
  refine clause_led F5 N5 c1 c2 rfl d5 (by simpa using hsz) c7 hneT T ?_
  intro h6 oT6 F6 N6 d6
  clear F4 N4 F5 N5
  walk_at "m steps"
  refine Halt.on (raise_led F6 N6 c2 rfl d6 (by simpa using hsz) c7 hneT ?_)
  intro h8 oT8 ts8 F8 N8 d8 d9
  refine leave_led F8 N8 c2 rfl d8 d9 c7 hneT ?_
  intro h9 oT9 ts9 F9 N9 d10 d11
  have fr2 : ∀ r, h2.get? r = none → s.heap.get? r = none := fun r hr => freshK (kpf_of (frs := frs) (frs' := frs) (new := [(x, fkBound)]) rfl F2 N2 (SameUp.refl _)) hr
  exact h _ _ e Te oe oT9 tp ts9 (kpf_of (new := [(e, oe), (Te, oT9)]) rfl F9 N9 SU) (fr2 e c6) (N9 _ (.head _)).1 c1 c2 (fr2 Te c5) (N9 _ (.tail _ (.head _))).1 d10 d11 c7
end

theorem baseGone {h₀ h : Heap} {L : Addr} {m : Str → Option Value} {frs news : List (Addr × Obj)} (F : Fr h₀ L h m) (N : News h₀ L h (news ++ frs)) : ∀ b o, h₀.get? b = some o → (TI.gone h (L :: frs.map (·.1))).get? b = some o := fun b o e => by
  rw [TI.gone_get (TI.base_apart F N TI.tail_sub e)]
  exact F.keep b o e
/-- behind a call that keeps all but the frames -/
theorem backF {h₀ h h' : Heap} {L : Addr} {m : Str → Option Value} {frs news : List (Addr × Obj)} {oL : Obj} (F : Fr h₀ L h m) (N : News h₀ L h (news ++ frs)) (hap : ∀ p ∈ news, p.1 ∉ L :: frs.map (·.1)) (hL : h.get? L = some oL) (k : KpF ((L, oL) :: frs) h h') :
    ∃ frs', TI.SameUp frs frs' ∧ Fr h₀ L h' m ∧ News h₀ L h' (news ++ frs') := by
  obtain ⟨k1, frs', SU, g⟩ := k
  cases frs' with
  | nil => exact False.elim SU
  | cons q frs' =>
    obtain ⟨e1, ⟨sl, e2⟩, SU⟩ := SU
    have hq := g q (.head _)
    rw [show q.1 = L from e1, show q.2 = { oL with slots := sl } from e2] at hq
    obtain ⟨oL', es, ep, hL', r⟩ := F.ns
    rw [hL] at hL'
    cases hL'
    refine ⟨frs', SU, ⟨⟨_, es, ep, hq, r⟩, fun b o e => k1 b o (TI.base_apart F N TI.tail_sub e) (F.keep b o e), F.above⟩, fun p hp => ?_⟩
    rcases List.mem_append.mp hp with hp | hp
    · obtain ⟨p1, p2, p3⟩ := N p (List.mem_append_left _ hp)
      exact ⟨k1 p.1 p.2 (hap p hp) p1, p2, p3⟩
    · obtain ⟨x, hx, e⟩ := SU.fwd p hp
      obtain ⟨_, p2, p3⟩ := N x (List.mem_append_right _ hx)
      exact ⟨g p (.tail _ hp), by rw [e]; exact p2, by rw [e]; exact p3⟩
theorem addOne {h₀ h h' : Heap} {L r : Addr} {m : Str → Option Value} {news : List (Addr × Obj)} {o : Obj} (F0 : Fr h₀ L h m) (F : Fr h₀ L h' m) (N : News h₀ L h' news) (hr : h.get? r = none) (ho : h'.get? r = some o) : News h₀ L h' ((r, o) :: news) := fun p hp => by
  rcases List.mem_cons.mp hp with rfl | hp
  · refine ⟨ho, fun e => ?_, TI.none_of F0.keep hr⟩
    obtain ⟨oL, _, _, hL, _⟩ := F0.ns
    rw [show r = L from e, hL] at hr; cases hr
  · exact N p hp
section
local macro_rules | `(tactic| walk_at "exec Try cons cons nil nil") => `(tactic| (with_reducible refine wpAny_Try_except ?_))
open TI in
theorem refused_spec {w : World} {mean : ExcName → Option Value} {mg mb : Str → Option Value} {s : Shared} {Q E : Value → Shared → Prop} {l : Addr} {vs : List Value} {ns : List Int} {ds : List D} {ll : List Env} {frs : List (Addr × Obj)}
    (Fs : Frs ll frs) (hfr : ∀ p ∈ frs, s.heap.get? p.1 = some p.2)
    (X : (hd.heap_39 w.params).In (gone s.heap (frs.map (·.1)))) (T : Tp mean mg mb (gone s.heap (frs.map (·.1))))
    (hl : (gone s.heap (frs.map (·.1))).IsList l vs.toArray) (hv : AllSees (gone s.heap (frs.map (·.1))) vs (.n ns :: ds))
    (h : ∀ h' tk, KpF frs s.heap h' → Q (.bool true) { s with heap := h', toks := tk }) :
    wpAny (Md w) (lvf ll 880 8800) (call (.ref 188) [.ref l]) Q E s := by
  w_on
  k_dflt (refine' enterF (binds := [(Str.ofString "numbers", .ref l)]) X T hfr ?ho ?hcd ?hroom ?hb ?hl ?c1 ?c2 ?c3 ?c4 ?_; walk_at "m enter")
  intro L h₁ F N
  walk_at "m steps"
  obtain ⟨oL, es, ep, hL, hLd, hr⟩ := id F.ns
  have g1 := baseGone (news := []) F N
  have hfr1 : ∀ p ∈ (L, oL) :: frs, h₁.get? p.1 = some p.2 := fun p hp => by
    rcases List.mem_cons.mp hp with rfl | hp
    · exact hL
    · exact (N p hp).1
  refine Halt.on (lowerf (d := 890) (u := 8900) ?_ rfl rfl (Nat.le_of_ble_eq_true rfl) (Nat.le_of_ble_eq_true rfl))
  refine dd_raise (frs := (L, oL) :: frs) ⟨(fun q => nomatch q), rfl, ⟨es, ep, hLd⟩, Fs⟩ hfr1 (X.keeps g1) (T.keeps g1) (hl.at fun o e => g1 _ o e) (hv.kp g1) ?_
  intro h2 tk2 e Te oe oT tp ts k2 hen heo c1 c2 hTn hTo d1 d2 c7
  obtain ⟨frs2, SU2, F2, N2⟩ := backF (news := []) F N (fun p hp => nomatch hp) hL k2
  have N3 := addOne F F2 N2 hTn hTo
  have N4 := addOne F F2 N3 hen heo
  have fresh : ∀ r, h₁.get? r = none → ∀ p ∈ [] ++ frs2, p.1 ≠ r := fun r hr p hp q => by
    obtain ⟨z, hz, q'⟩ := SU2.fwd p hp
    have := (N z hz).1
    rw [← q', q, hr] at this; cases this
  refine noted_more (l := ll) rfl (Fs.up SU2) F2 N4 c2 rfl d1 d2 c7 (fresh Te hTn) (fresh e hen) ?_
  intro h5 frs5 T5 oe5 oT5 ts5 SU5 Fs5 F5 N5 a1 a2 a3 a4 a5 a6
  have hsz : 3 < ts5.size := (Array.getElem?_eq_some_iff.mp a4).1
  refine flight_led (fl := none) F5 N5 a2 (by simp) a3 hsz a5 a6 ?_
  intro h6 oT6 F6 N6 d6
  refine clause_led F6 N6 (a1.trans c1) a2 (by simp) d6 (by simpa using hsz) a5 a6 T ?_
  intro h7 oT7 F7 N7 d7
  clear F2 N2 N3 N4 F5 N5 F6 N6
  walk_at "m steps"
  exact h _ _ (kpf_of (new := [(e, oe5), (T5, oT7)]) rfl F7 N7 (SU2.trans SU5))
end

/-- lists of numbers, made and in the ledger -/
inductive NumsIn (nw : List (Addr × Obj)) : List Value → List (Array UInt8) → Prop
  | nil : NumsIn nw [] []
  | cons {a : Addr} {ws : List Value} {n : Nat} {b : Array UInt8} {ys : List Value} {bs : List (Array UInt8)} : (a, listOf ws.toArray n) ∈ nw → IntsAre ws (KBw.bInts b) → NumsIn nw ys bs → NumsIn nw (.ref a :: ys) (b :: bs)
noncomputable def numD (b : Array UInt8) : D := .n (KBw.bInts b)
theorem NumsIn.mono {nw nw' : List (Addr × Obj)} (h : ∀ p ∈ nw, p ∈ nw') : ∀ {ys : List Value} {bs : List (Array UInt8)}, NumsIn nw ys bs → NumsIn nw' ys bs
  | _, _, .nil => .nil
  | _, _, .cons m i r => .cons (h _ m) i (NumsIn.mono h r)
theorem NumsIn.snoc {nw : List (Addr × Obj)} {a : Addr} {ws : List Value} {n : Nat} {b : Array UInt8} (m : (a, listOf ws.toArray n) ∈ nw) (i : IntsAre ws (KBw.bInts b)) : ∀ {ys : List Value} {bs : List (Array UInt8)}, NumsIn nw ys bs → NumsIn nw (ys ++ [.ref a]) (bs ++ [b])
  | _, _, .nil => .cons m i .nil
  | _, _, .cons m' i' r => .cons m' i' (NumsIn.snoc m i r)
theorem NumsIn.len {nw : List (Addr × Obj)} : ∀ {ys : List Value} {bs : List (Array UInt8)}, NumsIn nw ys bs → ys.length = bs.length
  | _, _, .nil => rfl
  | _, _, .cons _ _ r => by simp [NumsIn.len r]
theorem NumsIn.sees {h₀ h : Heap} {L : Addr} {nw news : List (Addr × Obj)} (N : News h₀ L h news) (sub : ∀ p ∈ nw, p ∈ news) : ∀ {ys : List Value} {bs : List (Array UInt8)}, NumsIn nw ys bs → AllSees h ys (bs.map numD)
  | _, _, .nil => .nil
  | _, _, .cons m i r => .cons ⟨_, _, _, rfl, (N _ (sub _ m)).1, i⟩ (NumsIn.sees N sub r)
theorem bInts_inj {a b : Array UInt8} (h : KBw.bInts a = KBw.bInts b) : a = b := by
  unfold KBw.bInts at h
  have h1 : a.toList = b.toList := by
    refine (List.map_inj_right (f := fun c : UInt8 => (c.toNat : Int)) (fun x y q => ?_)).mp h
    have q' : x.toNat = y.toNat := Int.ofNat.inj q
    exact UInt8.toNat_inj.mp q'
  exact Array.toList_inj.mp h1
def NumsJ (base : List (Addr × Obj)) (bs : List (Array UInt8)) (i : Nat) (ys : List Value) (nw : List (Addr × Obj)) : Prop := ∃ E, nw = E ++ base ∧ E.all TI.notDict = true ∧ NumsIn E ys (bs.take i)
open LCg in
theorem nums_turn {h₀ h5 : Heap} {L I C D r5 : Addr} {m : Str → Option Value} {s₁ : Shared} {oI oC : Obj} {S : List (Addr × Obj) → Prop} {base Eg : List (Addr × Obj)} {bs : List (Array UInt8)} {i : Nat} {ys w5 : List Value} {n5 tk5 : Nat} {b : Array UInt8}
    (F : Fr h₀ L h5 m) (N : News h₀ L h5 ((r5, listOf w5.toArray n5) :: (I, oI) :: (C, oC) :: (D, lst ys) :: (Eg ++ base))) (c5 : ∀ p ∈ (I, oI) :: (C, oC) :: (D, lst ys) :: (Eg ++ base), p.1 ≠ r5) (off : Off3 I C D (Eg ++ base))
    (hE : Eg.all TI.notDict = true) (hys : NumsIn Eg ys (bs.take i)) (hi5 : IntsAre w5 (KBw.bInts b)) (hb : bs[i]? = some b) (hS : ∀ p, S (p ++ (Eg ++ base))) :
    CompEnd h₀ L m s₁ I oI C oC D (lst ys) S (fun y nw' => NumsJ base bs (i + 1) (ys ++ [y]) nw') (.ref r5) { s₁ with heap := h5, toks := tk5 } := by
  refine ⟨h5, tk5, (r5, listOf w5.toArray n5) :: (Eg ++ base), rfl, F, fun p hp => N p ?_, ⟨⟨?_, ?_, ?_⟩, off⟩, hS [_], (r5, listOf w5.toArray n5) :: Eg, rfl, ?_, ?_⟩
  · simp only [List.mem_cons] at hp ⊢
    rcases hp with h | h | h | h | h
    · exact .inr (.inl h)
    · exact .inr (.inr (.inl h))
    · exact .inr (.inr (.inr (.inl h)))
    · exact .inl h
    · exact .inr (.inr (.inr (.inr h)))
  · exact Ne.symm (c5 _ (.head _))
  · exact Ne.symm (c5 _ (.tail _ (.head _)))
  · exact Ne.symm (c5 _ (.tail _ (.tail _ (.head _))))
  · rw [List.all_cons, hE]; rfl
  · rw [take_snoc hb]
    exact NumsIn.snoc (.head _) hi5 (hys.mono fun p hp => .tail _ hp)
theorem keysStrs {prog : Program} {w : World} {vs : List Value} : ∀ {kvs : List (Str × Value)}, vs.length = kvs.length → (∀ (j : Nat) (v : Value), vs[j]? = some v → ∃ k x, kvs[j]? = some (k, x) ∧ (PySem.strKind prog w).is k v = true) → StrsAre vs (kvs.map (·.1)) := by
  induction vs with
  | nil => intro kvs hl _; cases kvs with | nil => exact .nil | cons _ _ => cases hl
  | cons v vs ih =>
    intro kvs hl h
    cases kvs with
    | nil => cases hl
    | cons kx kvs =>
      obtain ⟨k, x⟩ := kx
      obtain ⟨k', x', e, q⟩ := h 0 v rfl
      cases (Option.some.inj e)
      obtain ⟨t, rfl⟩ := Value.isStrOf_shape q
      exact .cons _ _ (ih (Nat.succ.inj hl) fun j u hu => h (j + 1) u hu)
theorem NumsIn.sees' {h : Heap} {nw : List (Addr × Obj)} (g : ∀ p ∈ nw, h.get? p.1 = some p.2) : ∀ {ys : List Value} {bs : List (Array UInt8)}, NumsIn nw ys bs → AllSees h ys (bs.map numD)
  | _, _, .nil => .nil
  | _, _, .cons m i r => .cons ⟨_, _, _, rfl, g _ m, i⟩ (NumsIn.sees' g r)
open TI in
theorem newsGone {h₀ h : Heap} {L : Addr} {ll : List Env} {frs new : List (Addr × Obj)} (Fs : Frs ll frs) (N : News h₀ L h (new ++ frs)) (hnd : new.all notDict = true) : ∀ p ∈ new, (gone h (L :: frs.map (·.1))).get? p.1 = some p.2 := fun p hp => by
  rw [gone_get (new_apart Fs N hnd hp)]
  exact (N p (List.mem_append_left _ hp)).1
theorem once_nums (bs : List (Array UInt8)) : once (bs.map numD) = (onceG bs).map numD := by
  rw [once_eq]
  exact onceG_map numD bs fun a _ b _ q => bInts_inj (D.n.inj q)
section
variable {A : Around} {s : Shared} {a b : Addr}
/-- two lists of two, item by item the same -/
theorem ne_pairs {prog : Program} {w : World} {E Q : Value → Shared → Prop} {x0 x1 y0 y1 : Value} (ha : s.heap.IsList a #[x0, x1]) (hb : s.heap.IsList b #[y0, y1]) (h0 : PySem.SeqAt.EqAt A.in1 s x0 y0 true) (h1 : PySem.SeqAt.EqAt A.in1 s x1 y1 true) (hu : A.units + 100 < cLine) (h : Q (.bool false) s) : wpAny (model prog w) A (compareOp .NotEq (.ref a) (.ref b)) Q E s := by
  have r := PySem.SeqAt.RcNeAt.lists (A := A) ha hb (e := fun _ => true) rfl (by omega) (fun j h1' h2' => by
    have hj : j < 2 := h1'
    rcases (by omega : j = 0 ∨ j = 1) with rfl | rfl
    · exact h0
    · exact h1)
  exact r prog w E Q h
end

section
variable {prog : Program} {w : World} {A : Around} {E : Value → Shared → Prop} {s : Shared}
def OctAt (b : Array UInt8) (i : Nat) (v : Value) : Prop := ∃ c u, b[i]? = some c ∧ v = .int ((c.toNat : Nat) : Int) u
theorem bytes_len : typeLookup (.type "bytes") "__len__" = pure (some (.builtin "bytes.__len__")) := by rw [typeLookup_type, builtinLookup_eq_fast]; kernel_rfl
theorem lb_hint {b : Array UInt8} {t : Tok} {Q : Bool → Shared → Prop} (h : Q false s) : wpAny (model prog w) A (Builtin.List.listLengthHint (.bytes b t)) Q E s := by
  unfold Builtin.List.listLengthHint
  refine wpAny_bind (wpAny_specialOf (T := "bytes") (v := .bytes b t) (typeIs_bytes s b t) bytes_len ?_)
  wp_delta
  refine wpAny_bind (wpAny_isInstance (T := "bytes") (v := .bytes b t) (b := true) (typeIs_bytes s b t) (by rw [isSubtype_type]; kernel_rfl) ?_)
  show wpAny _ _ (typeOf (Value.bytes b t) >>= _) _ _ _
  refine wpAny_bind (wpAny_typeOf (T := "bytes") (v := .bytes b t) (typeIs_bytes s b t) ?_)
  exact wpAny_pure h
theorem lb_extend {R : Result → Shared → Prop} (hh : A.handled = none) (b : Array UInt8) (t : Tok) (S : Addr) (res : Value) (c₀ : Nat) (hS : s.heap.get? S = some { cls := .type "list", data := .seq #[] c₀ })
    (hR : ∀ h' tk acc' c', (∀ b o, b ≠ S → s.heap.get? b = some o → h'.get? b = some o) → h'.get? S = some { cls := .type "list", dict := none, data := .seq acc' c', slots := #[] } →
      ItemsOf (OctAt b) acc' b.size → R (.ok (.ret res)) { s with heap := h', toks := tk }) (hn : b.size ≤ sizeLine) :
    wpAny (model prog w) A.in1 (Builtin.List.listExtendWith (.ref S) (.bytes b t) res)
      (fun fin s' => match fin with | .done f => R (.ok f) s' | .again c' => c'.quiet = true ∧ codeAny (model prog w) A c' R s') (fun e s' => R (.error e) s') s := by
  have hSI : S ≠ s.heap.objs.size := Nat.ne_of_lt (Heap.lt_size hS)
  have hSf : S ∉ [s.heap.objs.size] := fun hm => hSI (List.mem_singleton.mp hm)
  unfold Builtin.List.listExtendWith
  refine wpAny_bind (wpAny_typeOf (T := "bytes") (v := .bytes b t) (typeIs_bytes s b t) ?_)
  have h1 : Builtin.List.listSameRef (.ref S) (.bytes b t) = false := rfl
  have h2 : (Value.type "bytes" == Value.type "list") = false := by decide
  have h3 : (Value.type "bytes" == Value.type "tuple") = false := by decide
  simp only [h1, h2, h3, Bool.or_false, Bool.false_eq_true, if_false]
  refine wpAny_bind (KBw.pyIter_bytes ?_)
  refine wpAny_bind (wpAny_holding (lb_hint ?_))
  rw [if_neg (by decide)]
  refine wpAny_pure ⟨plainId_quiet PySem.F.plain_extend_loop _, codeAny_extend_loopS (KBw.walks (A := A.in1) hh s.heap.objs.size b t).toS hn S hSf res b.size 0 _ #[] c₀ rfl (Nat.zero_le _) ⟨_, Heap.get?_push_size _ rfl, rfl, rfl⟩ (Heap.get?_push_of_some _ hS) (ItemsOf.nil _) fun s' acc' c' hm hS' hacc => ?_⟩
  rw [Moved.eq_with hm]
  refine hR s'.heap s'.toks acc' c' (fun b ob hb e => hm.heap b ob (fun hmem => ?_) (Heap.get?_push_of_some _ e)) hS' hacc
  rcases List.mem_cons.mp hmem with e' | hmem
  · exact hb e'
  · exact absurd (Heap.lt_size e) (by rw [List.mem_singleton.mp hmem]; exact Nat.lt_irrefl _)
theorem lb_init {R : Result → Shared → Prop} (hh : A.handled = none) (b : Array UInt8) (t : Tok) (S : Addr) (hS : s.heap.get? S = some { cls := .type "list", data := .seq #[] })
    (hR : ∀ h' tk acc' c', (∀ b o, b ≠ S → s.heap.get? b = some o → h'.get? b = some o) → h'.get? S = some { cls := .type "list", dict := none, data := .seq acc' c', slots := #[] } →
      ItemsOf (OctAt b) acc' b.size → R (.ok (.ret .none)) { s with heap := h', toks := tk }) (hn : b.size ≤ sizeLine) :
    wpAny (model prog w) A.in1 (Builtin.«list.__init__» ⟨[.ref S, .bytes b t], []⟩)
      (fun fin s' => match fin with | .done f => R (.ok f) s' | .again c' => c'.quiet = true ∧ codeAny (model prog w) A c' R s') (fun e s' => R (.error e) s') s := by
  show wpAny _ _ (do let old ← Builtin.List.listItems (.ref S); Builtin.List.listUpdate (.ref S) (fun _ => #[]); letGo old.toList.reverse; Builtin.List.listExtendWith (.ref S) (.bytes b t) .none) _ _ s
  refine wpAny_bind ?_
  unfold Builtin.List.listItems
  refine wpAny_bind (wpAny_seqItems hS rfl (wpAny_pure ?_))
  show wpAny _ _ (updateSeq S (fun _ => #[]) >>= fun _ => letGo (#[] : Array Value).toList.reverse >>= fun _ => Builtin.List.listExtendWith (.ref S) (.bytes b t) .none) _ _ s
  refine wpAny_bind (wpAny_updateSeq hS rfl ?_)
  have hS₂ := Heap.get?_update_self (Obj.mapSeq (fun _ => (#[] : Array Value))) hS rfl
  have oth : ∀ b o, b ≠ S → s.heap.get? b = some o → (s.heap.update S (Obj.mapSeq (fun _ => (#[] : Array Value)))).get? b = some o :=
    fun b o hb e => (Heap.get?_update_other _ _ (Ne.symm hb)).trans e
  refine wpAny_bind (wpAny_letGo ?_)
  refine lb_extend hh b t S .none _ hS₂ (fun h' tk acc' c' hk hS' hacc => ?_) hn
  exact hR h' tk acc' c' (fun b o hb e => hk b o hb (oth b o hb e)) hS' hacc
/-- list(octets): a new list of numbers -/
theorem lb_call {Q : Value → Shared → Prop} {b : Array UInt8} {t : Tok} (hh : A.handled = none) (hn : b.size ≤ 1000)
    (hQ : ∀ h' tk r ws n, Kp s.heap h' → s.heap.get? r = none → h'.get? r = some (listOf ws.toArray n) → IntsAre ws (KBw.bInts b) → Q (.ref r) { s with heap := h', toks := tk }) :
    wpAny (model prog w) A (call (.type "list") [.bytes b t]) Q E s := by
  refine callType_codes (Q₁ := fun obj s₁ => obj = .ref s.heap.objs.size ∧ s₁ = { s with heap := s.heap.push { cls := .type "list", data := .seq #[] } }) PySem.F.called_list (PySem.F.typeCall_list_1 _) PySem.F.entry_list_init
    (code_list_new _ ⟨rfl, rfl⟩) fun obj s₁ h₁ => ?_
  obtain ⟨rfl, rfl⟩ := h₁
  have hS : (s.heap.push { cls := .type "list", data := .seq #[] }).get? s.heap.objs.size = some { cls := .type "list", data := .seq #[] } := Heap.get?_push_size _ rfl
  refine ⟨⟨_, hS, rfl⟩, PySem.F.args_list_init_2 _ _, lb_init (A := A.in1) hh b t _ hS (fun h' tk acc' c' hk hS' hacc => ?_) (by rw [sizeLine_eq]; omega)⟩
  refine ⟨rfl, hQ h' tk _ acc'.toList c' (fun b o e => hk b o (Nat.ne_of_lt (Heap.lt_size e)) (Heap.get?_push_of_some _ e)) (Heap.get?_none_of_le (Nat.le_refl _)) (by rw [Array.toArray_toList]; exact hS') ?_⟩
  have hl : acc'.toList.length = b.toList.length := by rw [Array.length_toList, Array.length_toList]; exact hacc.1
  have hat : ∀ (j : Nat) (v : Value), acc'.toList[j]? = some v → ∃ c u, b.toList[j]? = some c ∧ v = .int ((c.toNat : Nat) : Int) u := fun j v e => by
    obtain ⟨c, u, q, r⟩ := hacc.2 j v (by rw [← Array.getElem?_toList]; exact e)
    exact ⟨c, u, by rw [Array.getElem?_toList]; exact q, r⟩
  unfold KBw.bInts
  generalize acc'.toList = l at hl hat
  generalize b.toList = bl at hl hat
  clear hacc hS' hk
  induction l generalizing bl with
  | nil => cases bl with
    | nil => exact .nil
    | cons _ _ => simp at hl
  | cons v l ih => cases bl with
    | nil => simp at hl
    | cons c bl =>
      obtain ⟨c', u, q, rfl⟩ := hat 0 v (by simp)
      have q' : c = c' := by simpa using q
      subst q'
      exact .cons _ _ (ih bl (by simpa using hl) fun j v e => by simpa using hat (j + 1) v (by simpa using e))
end

theorem storedTexts {l : List Value} {kvs : List (Str × Value)} (h : StoredAll (fun v (k : Str) => ∃ t, v = .str k t) (fun _ y => y = Value.none) l kvs) : ∀ {xs : List Str}, StrsAre l xs → kvs = (onceG xs).map fun x => (x, Value.none) := by
  induction h with
  | nil => intro xs hx; cases hx; rfl
  | @snoc l kvs v k y h1 h2 h3 ih =>
    intro xs hx
    obtain ⟨t, rfl⟩ := h2
    obtain rfl : y = Value.none := h3
    have hl := strsLen hx
    rcases List.eq_nil_or_concat xs with rfl | ⟨ys, z, rfl⟩
    · simp at hl
    · rw [List.concat_eq_append] at *
      have hs := strsDrop l.length hx
      have hl' : l.length = ys.length := by simpa using hl
      have e2 : (l ++ [Value.str k t]).drop l.length = [Value.str k t] := by simp
      have e3 : (ys ++ [z]).drop l.length = [z] := by rw [hl']; simp
      rw [e2, e3] at hs
      have hz : z = k := by cases hs; rfl
      subst hz
      have hy : StrsAre l ys := by
        have : ∀ {l : List Value} {ys : List Str} {v : Value} {z : Str}, l.length = ys.length → StrsAre (l ++ [v]) (ys ++ [z]) → StrsAre l ys := by
          intro l
          induction l with
          | nil => intro ys v z e _; cases ys with | nil => exact .nil | cons _ _ => simp at e
          | cons a l ih' => intro ys v z e hh; cases ys with
            | nil => simp at e
            | cons b ys => cases hh with | cons _ _ r => exact .cons _ _ (ih' (by simpa using e) r)
        exact this hl' hx
      rw [ih hy, stored_none, onceG_snoc]
section
variable {prog : Program} {w : World} {A : Around} {E : Value → Shared → Prop} {s : Shared} {env : Env}
/-- {text: None for text in a list of texts} -/
theorem DictComp_T {p1 px pos : Pos} {vx iter : Expr} {x : Str} {scope : Scope} {cl : List (Str × Addr)} {Q : Value → Shared → Prop} (hh : A.handled = none)
    (hclos : closureFor scope env = pure cl) (hcell : ∀ y ∈ scope.names, y.2 ≠ .cell) (hkind : scope.kind = .function)
    (hnames : ∀ y ∈ scope.names, y.2 = .local → scope.names.lookup y.1 = some .local) (hx : scope.names.lookup x = some .local)
    (hval : ∀ C, eval vx (compEnvC scope cl C env) = pure .none) (hk : ∀ C, (compEnvC scope cl C env).scope.kind = .function) (hl : ∀ C, (compEnvC scope cl C env).kindOf x = some .local) (hd : (x == ("__debug__" : Str)) = false)
    (h : wpAny (model prog w) A (eval iter env) (fun xv s₁ => Halt (∃ ax vs xs, xv = .ref ax ∧ s₁.heap.IsList ax vs.toArray ∧ StrsAre vs xs ∧ xs.length ≤ 1000 ∧
      ∀ D h' tk, Kp s₁.heap h' → s₁.heap.get? D = none → h'.DictOf (PySem.strKind prog w) D ((onceG xs).map fun x => (x, Value.none)) → Q (.ref D) { s₁ with heap := h', toks := tk })) E s)
    (hs : ∀ x, foldedSetIterable iter env x = pure x) :
    wpAny (model prog w) A (eval (.DictComp (.Name x p1) vx [⟨.Name x px, iter, [], 0⟩] scope pos) env) Q E s := by
  refine wpAny_DictComp_free (PySem.strKind prog w) (fun _ => true) (fun v k => ∃ t, v = .str k t) (fun _ y => y = Value.none) hclos hcell hkind hnames hx (wpAny_mono h (fun xv s₁ h₁ => ?_) fun _ _ e => e) hs
  obtain ⟨ax, vs, xs, rfl, hls, hv, hz, hQ⟩ := h₁
  have hlt : ax < s₁.heap.objs.size := by obtain ⟨_, e, _⟩ := hls; exact Heap.lt_size e
  have hlen := strsLen hv
  refine wpAny_pyIter_list hls ?_
  refine ⟨s₁.heap.objs.size, _, _, _, _, _, rfl, Walks.list hh _ ax (Nat.ne_of_lt hlt) vs.toArray, by rw [sizeLine_eq, List.size_toArray]; omega, ⟨⟨_, Heap.get?_push_size _ rfl, rfl, rfl⟩, hls.push _⟩, ?_, ⟨?_, ?_, ?_⟩, ?_⟩
  · intro b hb
    show b < (s₁.heap.push _).objs.size
    rw [Heap.size_push]
    rcases List.mem_cons.mp hb with rfl | hb
    · exact Nat.lt_succ_self _
    · rw [List.mem_singleton.mp hb]; exact Nat.lt_succ_of_lt hlt
  · intro C i v s₃ m₃ E' _ _ _ _
    rw [List.forIn_nil]
    exact wpAny_pure ⟨rfl, _, _, rfl, fun _ _ e => e⟩
  · intro C i v s₃ m₃ E' hP _ hn hm _
    obtain ⟨u, t, rfl, _⟩ := strsAt hv i v (by simpa using hP)
    refine ldVarK (scope := scope) (cl := cl) (C := C) (env := env) hn hm ?_ (hk C) (hl C) hd
    exact ⟨⟨u, by show Value.isStrOf u (.str u t) = true; simp [Value.isStrOf], t, rfl⟩, _, _, rfl, fun _ _ e => e⟩
  · intro C i v s₃ m₃ E' _ _ _ _ _
    rw [hval C]
    exact wpAny_pure ⟨rfl, _, _, rfl, fun _ _ e => e⟩
  · intro D h' tk kvs vs' hD hdk hl' hP hF hkp
    have ev : vs' = vs := by
      refine List.ext_getElem? fun j => ?_
      by_cases hj : j < vs'.length
      · have := hP j vs'[j] (List.getElem?_eq_getElem hj)
        rw [List.getElem?_eq_getElem hj]
        simpa using this.symm
      · rw [List.getElem?_eq_none (by omega), List.getElem?_eq_none (by rw [List.size_toArray] at hl'; omega)]
    subst ev
    rw [List.filter_eq_self.mpr (fun _ _ => rfl)] at hF
    rw [storedTexts hF hv] at hdk
    have hDs : s₁.heap.get? D = none := by
      cases e : s₁.heap.get? D with
      | none => rfl
      | some o => rw [Heap.get?_push_of_some _ e] at hD; cases hD
    refine hQ D h' tk (fun b o e => hkp b o (fun hm => ?_) (Heap.get?_push_of_some _ e)) hDs hdk
    exact absurd (Heap.lt_size e) ((List.mem_singleton.mp hm) ▸ Nat.lt_irrefl _)
end
theorem noimp : importsNone hd.view_39 = true := by decide +kernel
/-- what is fresh is not the table of the modules -/
theorem notMods {mean : ExcName → Option Value} {mg mb : Str → Option Value} {h : Heap} {D : Addr} (T : Tp mean mg mb h) (hD : h.get? D = none) : (D == sysModules) = false := by
  have hs := T.seer noimp
  refine beq_eq_false_iff_ne.mpr fun e => ?_
  subst e
  obtain ⟨o, _, _, ho, _⟩ := hs.mods.choose_spec.1
  rw [hD] at ho; cases ho
theorem onceG_nodup {α : Type} [DecidableEq α] : ∀ (l : List α), l.Nodup → onceG l = l := fun l => by
  refine snoc_ind (P := fun l => l.Nodup → onceG l = l) (fun _ => rfl) (fun l d ih hn => ?_) l
  rw [List.nodup_append] at hn
  rw [onceG_snoc, ih hn.1, if_neg (fun hd => hn.2.2 d hd d (by simp) rfl)]
theorem noneHits {A : Around} {s : Shared} {kb : List (Str × Value)} (hb : ∀ k v, (k, v) ∈ kb → v = .none) : ∀ {ka : List (Str × Value)}, (∀ p ∈ ka, p ∈ kb) → (ka.map (·.1)).Nodup → (kb.map (·.1)).Nodup → KeqHits A s kb ka true
  | [], _, _, _ => .nil
  | (k, v) :: r, hsub, hn, hnb => by
    have hm := hsub _ (.head _)
    have hv := hb _ _ hm
    obtain ⟨i, hi⟩ := List.getElem?_of_mem hm
    have h1 := valueAt_of_get hnb hi
    have hee : PySem.SeqAt.EqAt A s v v true := by
      intro prog w E Q hq
      subst hv
      unfold eqBool
      first
        | (refine wpAny_holding ?_; refine wpAny_ite_split (fun _ => wpAny_bind (wpAny_rule (wpAny_pure hq))) (fun hne => absurd (by decide) hne))
        | (refine wpAny_ite_split (fun _ => wpAny_bind (wpAny_rule (wpAny_pure hq))) (fun hne => absurd (by decide) hne))
    exact KeqHits.hit (e := true) (b := true) h1 hee (noneHits hb (fun p hp => hsub p (.tail _ hp)) (List.nodup_cons.mp hn).2 hnb)
/-- two dicts with the same texts, None behind each -/
theorem ne_dicts {prog : Program} {w : World} {A : Around} {E Q : Value → Shared → Prop} {s : Shared} {a b : Addr} {l : List Str} (ha : (a == sysModules) = false) (hb : (b == sysModules) = false) (hu : A.units + 10 < cLine)
    (da : s.heap.DictOf (PySem.strKind prog w) a (l.map fun x => (x, Value.none))) (db : s.heap.DictOf (PySem.strKind prog w) b (l.map fun x => (x, Value.none))) (h : Q (.bool false) s) :
    wpAny (model prog w) A (compareOp .NotEq (.ref a) (.ref b)) Q E s := by
  have hn : ((l.map fun x => (x, Value.none)).map (·.1)).Nodup := let ⟨_, _, _, _, _, _, _, _, hn⟩ := da; hn
  refine keq_ne ha hb da db (by omega) (fun _ => noneHits (fun k v hm => ?_) (fun _ hp => hp) hn hn) ?_
  · obtain ⟨x, _, e⟩ := List.mem_map.mp hm
    cases e; rfl
  · rw [beq_self_eq_true]; exact h

@[reducible] def octKind : PyProof.Rows.KeyKind :=
  { PyProof.Rows.strKind with keyOf := fun v => match v with | .bytes b _ => some (b.toList.map (·.toNat)) | _ => none, dflt := [] }
theorem slot_bytes_lt : Slot "bytes" (cmpInfo .Lt).2.1 "bytes.__lt__" :=
  .of (owner := "bytes") (n := "__lt__") (by rw [typeLookup_type, builtinLookup_eq_fast]; kernel_rfl) (by decide +kernel) (by decide +kernel) (by decide +kernel)
    (by first | exact .inl (by decide +kernel) | exact .inr (by decide +kernel)) (by rw [isSubtype_type]; kernel_rfl)
theorem entry_bytes_lt : entryFor table "bytes.__lt__" = some Builtin.«bytes.__lt__» := entryFor_of_fast (by kernel_rfl)
theorem args_bytes_lt (a b : Value) : argsOk "bytes.__lt__" ⟨[a, b], []⟩ := by unfold argsOk; kernel_rfl
theorem order_lt : ∀ (a b : List UInt8), Builtin.Bytes.holds "__lt__" (Builtin.Bytes.order a b) = decide (a.map (·.toNat) < b.map (·.toNat))
  | [], [] => rfl
  | [], _ :: _ => rfl
  | _ :: _, [] => rfl
  | x :: xs, y :: ys => by
    have e1 : Builtin.Bytes.order (x :: xs) (y :: ys) = if x < y then .lt else if x > y then .gt else Builtin.Bytes.order xs ys := rfl
    rw [e1, List.map_cons, List.map_cons, Bool.eq_iff_iff, decide_eq_true_eq, List.cons_lt_cons_iff]
    by_cases h1 : x < y
    · rw [if_pos h1]
      exact ⟨fun _ => .inl (UInt8.lt_iff_toNat_lt.mp h1), fun _ => rfl⟩
    · rw [if_neg h1]
      by_cases h2 : x > y
      · rw [if_pos h2]
        have h3 : y.toNat < x.toNat := UInt8.lt_iff_toNat_lt.mp h2
        refine ⟨fun q => (by cases q), fun q => ?_⟩
        rcases q with q | ⟨q, _⟩ <;> omega
      · rw [if_neg h2]
        have h3 : ¬ x.toNat < y.toNat := fun q => h1 (UInt8.lt_iff_toNat_lt.mpr q)
        have h4 : ¬ y.toNat < x.toNat := fun q => h2 (UInt8.lt_iff_toNat_lt.mpr q)
        have ih := order_lt xs ys
        rw [ih, decide_eq_true_eq]
        refine ⟨fun q => .inr ⟨by omega, q⟩, fun q => ?_⟩
        rcases q with q | ⟨_, q⟩
        · omega
        · exact q
section
variable {prog : Program} {w : World} {A : Around} {E : Value → Shared → Prop} {s : Shared}
theorem call_bytes_lt {a b : Array UInt8} {t u : Tok} {Q : Value → Shared → Prop} (h : Q (.bool (decide (a.toList.map (·.toNat) < b.toList.map (·.toNat)))) s) :
    wpAny (model prog w) A (call (.builtin "bytes.__lt__") [.bytes a t, .bytes b u]) Q E s := by
  refine wpAny_call_entry slot_bytes_lt (typeIs_bytes s a t) entry_bytes_lt ?_ (args_bytes_lt _ _)
  have h2 := typeIs_bytes s b u
  have h3 : isSubtype (.type "bytes") (.type "bytes") = pure true := by rw [isSubtype_type]; kernel_rfl
  rw [← order_lt] at h
  wp_walk
  exact ⟨_, rfl, h⟩
theorem oneLt_bytes {a b : Array UInt8} {t u : Tok} {Q : Bool → Shared → Prop} (h : Q (decide (a.toList.map (·.toNat) < b.toList.map (·.toNat))) s) : wpAny (model prog w) A (oneLt' true (.bytes a t) (.bytes b u)) Q E s := by
  rw [oneLt'_eq]
  simp only [if_true]
  refine wpAny_bind (wpAny_cRoomFor_byValue rfl ?_)
  refine wpAny_bind (wpAny_callSpecialIfBound?_slot (typeIs_bytes s a t) slot_bytes_lt (call_bytes_lt ?_))
  exact wpAny_truthy_bool h
end
theorem octKind_oneLt : octKind.OneLt := by
  intro prog w A E s x y a b Q ha hb h
  cases x <;> simp only [octKind, reduceCtorEq, Option.some.injEq] at ha
  cases y <;> simp only [octKind, reduceCtorEq, Option.some.injEq] at hb
  cases ha; cases hb
  exact oneLt_bytes h
noncomputable def keyD (κ : PyProof.Rows.KeyKind) (v : Value) : κ.α := (κ.keyOf v).getD κ.dflt
/-- sorted, by whatever order the items have -/
theorem sortedG {κ : PyProof.Rows.KeyKind} (hO : κ.OneLt) {prog : Program} {w : World} {A : Around} {E Q : Value → Shared → Prop} {s : Shared} {h₀ : Heap} {L l : Addr} {m : Str → Option Value} {news : List (Addr × Obj)} {vs : List Value}
    (F : Fr h₀ L s.heap m) (N : News h₀ L s.heap news) (hl : s.heap.IsList l vs.toArray) (hk : ∀ v ∈ vs, ∃ a, κ.keyOf v = some a) (hkk : ∀ v₁ v₂ rest, vs = v₁ :: v₂ :: rest → keyKind' (v₁ :: v₂ :: rest).toArray = pure oneType') (h64 : vs.length < 64)
    (h : ∀ (h' : Heap) (r : Addr) (vs' : List Value) (e : Nat), Fr h₀ L h' m → News h₀ L h' ((r, listOf vs'.toArray e) :: news) → (∀ p ∈ news, p.1 < r) → vs'.Perm vs → (vs'.map (keyD κ)).Pairwise κ.kle → Q (.ref r) { s with heap := h' }) :
    wpAny (model prog w) A (call (.builtin "sorted") [.ref l]) Q E s := by
  refine sortedK hO hl (fun p hp => ?_) hkk h64 fun st' hp hs => ?_
  · rw [pairsOf_toList] at hp
    exact hk _ (mem_zip_self hp).2
  · obtain ⟨e, he⟩ := sortedAll_at s.heap vs ((arrOf st').map (·.2))
    have hpl : (arrOf st').toList.Perm (vs.zip vs) := by rw [← pairsOf_toList]; exact Array.perm_iff_toList_perm.mp hp
    refine h _ _ ((arrOf st').map (·.2)).toList e (F.kept fun _ _ => sortedAll_old) (N.kept_cons F (fun _ _ => sortedAll_old) (Nat.le_succ _) (by rw [Array.toArray_toList]; exact he)) (fun p hp => Nat.lt_succ_of_lt (Heap.lt_size (N p hp).1)) ?_ ?_
    · rw [Array.toList_map]
      have := hpl.map (·.2)
      rwa [List.map_snd_zip (Nat.le_refl _)] at this
    · rw [Array.toList_map, List.map_map, List.pairwise_iff_getElem]
      intro i j hi hj hij
      have hi' : i < (arrOf st').size := by simpa using hi
      have hj' : j < (arrOf st').size := by simpa using hj
      have h1 := hs i j (Nat.le_of_lt hij) (by rw [← hp.size_eq]; exact hj')
      have same : ∀ (k : Nat) (hk : k < (arrOf st').size), KK κ (arrOf st') k = keyD κ (arrOf st')[k].2 := fun k hk => by
        have q := (mem_zip_self (hpl.mem_iff.mp (List.getElem_mem (l := (arrOf st').toList) (by simpa using hk)))).1
        unfold KK keyD
        rw [getElem?_pos _ k hk]
        show (κ.keyOf (arrOf st')[k].1).getD κ.dflt = _
        rw [show (arrOf st')[k].1 = (arrOf st')[k].2 from by simpa using q]
      rw [same i hi', same j hj'] at h1
      simpa using h1
noncomputable def octOf : Value → Array UInt8
  | .bytes b _ => b
  | _ => #[]
def OctsAre (vs : List Value) (bs : List (Array UInt8)) : Prop := vs.map octOf = bs ∧ ∀ v ∈ vs, ∃ b t, v = .bytes b t
theorem OctsAre.of {h : Heap} : ∀ {vs : List Value} {bs : List (Array UInt8)}, AllSees h vs (bs.map .b) → OctsAre vs bs
  | _, [], q => by cases q; exact ⟨rfl, fun _ hv => nomatch hv⟩
  | _, b :: bs, q => by
    cases q with
    | cons x r =>
      obtain ⟨t, rfl⟩ := x
      obtain ⟨h1, h2⟩ := OctsAre.of r
      refine ⟨by rw [List.map_cons, h1]; rfl, fun v hv => ?_⟩
      rcases List.mem_cons.mp hv with rfl | hv
      · exact ⟨b, t, rfl⟩
      · exact h2 v hv
theorem OctsAre.sees {h : Heap} : ∀ {vs : List Value} {bs : List (Array UInt8)}, OctsAre vs bs → AllSees h vs (bs.map .b)
  | [], _, ⟨h1, _⟩ => by rw [← h1]; exact .nil
  | v :: vs, _, ⟨h1, h2⟩ => by
    rw [← h1]
    obtain ⟨b, t, rfl⟩ := h2 v (.head _)
    exact .cons ⟨t, rfl⟩ (OctsAre.sees ⟨rfl, fun u hu => h2 u (.tail _ hu)⟩)
theorem mapM_first_octs : ∀ {vs : List Value}, (∀ v ∈ vs, ∃ b t, v = .bytes b t) → vs.mapM firstOfTuple' = pure (vs.map fun _ => none)
  | [], _ => by simp
  | v :: vs, h => by
    obtain ⟨b, t, rfl⟩ := h v (.head _)
    rw [List.mapM_cons, show firstOfTuple' (.bytes b t) = pure none from rfl, mapM_first_octs fun u hu => h u (.tail _ hu)]; simp
theorem mapM_typeOf_octs : ∀ {vs : List Value}, (∀ v ∈ vs, ∃ b t, v = .bytes b t) → vs.mapM typeOf = pure (vs.map fun _ => Value.type "bytes")
  | [], _ => by simp
  | v :: vs, h => by
    obtain ⟨b, t, rfl⟩ := h v (.head _)
    rw [List.mapM_cons, mapM_typeOf_octs fun u hu => h u (.tail _ hu)]
    show (pure (Value.type "bytes") >>= fun b => pure _ >>= fun bs => pure (b :: bs)) = _
    simp
theorem keyKind_octs {v₁ v₂ : Value} {vs : List Value} (hS : ∀ v ∈ v₁ :: v₂ :: vs, ∃ b t, v = .bytes b t) : keyKind' (v₁ :: v₂ :: vs).toArray = pure oneType' := by
  rw [keyKind'_eq, List.mapM_toArray, mapM_first_octs hS]
  simp only [map_pure, pure_bind]
  rw [if_neg (by simp), if_neg (by simp)]
  rw [oneTypeOnly'_eq, List.mapM_toArray, mapM_typeOf_octs hS]
  simp only [map_pure, pure_bind]
  have hall : ((List.map (fun _ => Value.type "bytes") (v₁ :: v₂ :: vs)).toArray.all fun x => x == Value.type "bytes") = true := by
    simp only [List.all_toArray, List.all_map, List.all_eq_true]
    intro _ _
    rfl
  have h0 : (List.map (fun _ => Value.type "bytes") (v₁ :: v₂ :: vs)).toArray[0]? = some (Value.type "bytes") := by simp
  rw [h0]
  simp only [hall, if_true, pure_bind, Option.isSome_some]
def OLe (a b : Array UInt8) : Prop := ¬ b.toList.map (·.toNat) < a.toList.map (·.toNat)
theorem OLe.antisymm {a b : Array UInt8} (h : OLe a b) (h' : OLe b a) : a = b := by
  have e : a.toList.map (·.toNat) = b.toList.map (·.toNat) := List.le_antisymm (show a.toList.map (·.toNat) ≤ b.toList.map (·.toNat) from h) (show b.toList.map (·.toNat) ≤ a.toList.map (·.toNat) from h')
  exact Array.toList_inj.mp ((List.map_inj_right (fun x y q => UInt8.toNat_inj.mp q)).mp e)
section
variable {prog : Program} {w : World} {A : Around} {E Q : Value → Shared → Prop} {s : Shared} {h₀ : Heap} {L l : Addr} {m : Str → Option Value} {news : List (Addr × Obj)} {vs : List Value}
theorem sorted_octs {bs : List (Array UInt8)} (F : Fr h₀ L s.heap m) (N : News h₀ L s.heap news) (hl : s.heap.IsList l vs.toArray) (hv : OctsAre vs bs) (h64 : bs.length < 64)
    (h : ∀ (h' : Heap) (r : Addr) (vs' : List Value) bs' (e : Nat), Fr h₀ L h' m → News h₀ L h' ((r, listOf vs'.toArray e) :: news) → (∀ p ∈ news, p.1 < r) → OctsAre vs' bs' → bs'.Perm bs → bs'.Pairwise OLe → Q (.ref r) { s with heap := h' }) :
    wpAny (model prog w) A (call (.builtin "sorted") [.ref l]) Q E s := by
  have hlen : vs.length = bs.length := by rw [← hv.1, List.length_map]
  refine sortedG octKind_oneLt F N hl (fun v hm => by obtain ⟨b, t, rfl⟩ := hv.2 v hm; exact ⟨_, rfl⟩) (fun v₁ v₂ rest e => keyKind_octs (by rw [← e]; exact hv.2)) (by omega) fun h' r vs' e F' N' lt hp hs => ?_
  have hall : ∀ v ∈ vs', ∃ b t, v = .bytes b t := fun v hm => hv.2 v (hp.mem_iff.mp hm)
  refine h h' r vs' (vs'.map octOf) e F' N' lt ⟨rfl, hall⟩ (by rw [← hv.1]; exact hp.map _) ?_
  rw [List.pairwise_map] at hs ⊢
  refine hs.imp_of_mem fun {a b} ha hb q => ?_
  obtain ⟨x, t, rfl⟩ := hall a ha
  obtain ⟨y, u, rfl⟩ := hall b hb
  have q' : decide (y.toList.map (·.toNat) < x.toList.map (·.toNat)) = false := q
  exact of_decide_eq_false q'
theorem sorted_texts {xs : List Str} (F : Fr h₀ L s.heap m) (N : News h₀ L s.heap news) (hl : s.heap.IsList l vs.toArray) (hv : StrsAre vs xs) (h64 : xs.length < 64)
    (h : ∀ (h' : Heap) (r : Addr) (vs' : List Value) xs' (e : Nat), Fr h₀ L h' m → News h₀ L h' ((r, listOf vs'.toArray e) :: news) → (∀ p ∈ news, p.1 < r) → StrsAre vs' xs' → xs'.Perm xs → xs'.Pairwise (fun a b => ¬ b.cps.toList < a.cps.toList) → Q (.ref r) { s with heap := h' }) :
    wpAny (model prog w) A (call (.builtin "sorted") [.ref l]) Q E s := by
  have hlen : vs.length = xs.length := by rw [← hv.strs, List.length_map]
  refine sortedG strKind_oneLt F N hl (fun v hm => by obtain ⟨x, t, rfl⟩ := hv.all v hm; exact ⟨_, rfl⟩) (fun v₁ v₂ rest e => keyKind_strs (by rw [← e]; exact hv)) (by omega) fun h' r vs' e F' N' lt hp hs => ?_
  have hall : ∀ v ∈ vs', ∃ x t, v = .str x t := fun v hm => hv.all v (hp.mem_iff.mp hm)
  refine h h' r vs' (vs'.map strOf) e F' N' lt (strsAre_map vs' hall) (by rw [← hv.strs]; exact hp.map _) ?_
  rw [List.pairwise_map] at hs ⊢
  refine hs.imp_of_mem fun {a b} ha hb q => ?_
  obtain ⟨x, t, rfl⟩ := hall a ha
  obtain ⟨y, u, rfl⟩ := hall b hb
  have q' : decide (y.cps.toList < x.cps.toList) = false := q
  exact of_decide_eq_false q'
end

theorem taken_sorted {xs b due xs' : List Str} (h1 : b.Pairwise SLt) (h2 : ∀ z, z ∈ xs ↔ z ∈ b) (h3 : due.Nodup) (h4 : ∀ z, z ∈ due ↔ z ∈ xs) (h5 : xs'.Perm due) (h6 : xs'.Pairwise (fun a b => ¬ b.cps.toList < a.cps.toList)) : b = xs' := by
  have hb : b.Nodup := by
    show List.Pairwise (fun x y => x ≠ y) b
    refine h1.imp ?_
    intro x y q e
    subst e
    exact List.lt_irrefl x.cps.toList q
  have hp : b.Perm due := (List.perm_ext_iff_of_nodup hb h3).mpr fun z => (h2 z).symm.trans (h4 z).symm
  exact List.Perm.eq_of_pairwise (le := SLe) (fun x y _ _ p q => p.antisymm q) (h1.imp fun q => q.le) h6 (hp.trans h5.symm)
theorem perm_pre {α β : Type} (f : α → β) {l m : List β} (h : l.Perm m) : ∀ xs : List α, m = xs.map f → ∃ ys : List α, l = ys.map f ∧ ys.Perm xs := by
  induction h with
  | nil => intro xs e; exact ⟨[], rfl, by rw [List.map_eq_nil_iff.mp e.symm]⟩
  | cons x p ih =>
    intro xs e
    cases xs with
    | nil => cases e
    | cons a xs =>
      rw [List.map_cons] at e
      injection e with e1 e2
      obtain ⟨ys, h1, h2⟩ := ih xs e2
      exact ⟨a :: ys, by rw [List.map_cons, ← h1, e1], h2.cons a⟩
  | swap x y l =>
    intro xs e
    cases xs with
    | nil => cases e
    | cons a xs =>
      cases xs with
      | nil =>
        rw [List.map_cons] at e
        injection e with e1 e2
        cases e2
      | cons b xs =>
        rw [List.map_cons, List.map_cons] at e
        injection e with e1 e2
        injection e2 with e2 e3
        exact ⟨b :: a :: xs, by rw [List.map_cons, List.map_cons, ← e3, e1, e2], List.Perm.swap ..⟩
  | trans p q ih1 ih2 =>
    intro xs e
    obtain ⟨ys, h1, h2⟩ := ih2 xs e
    obtain ⟨zs, h3, h4⟩ := ih1 ys h1
    exact ⟨zs, h3, h4.trans h2⟩
theorem octs_sorted {b1 b2 cs os : List (Array UInt8)} (h1 : b1.Perm cs) (h2 : cs.Perm os) (h3 : b2.Perm os) (h4 : b1.Pairwise OLe) (h5 : b2.Pairwise OLe) : b1 = b2 :=
  List.Perm.eq_of_pairwise (le := OLe) (fun _ _ _ _ p q => p.antisymm q) h4 h5 ((h1.trans h2).trans h3.symm)
theorem off1_mem {D : Addr} (l : List (Addr × Obj)) (x : LCg.Off1 D l) : ∀ p ∈ l, p.1 ≠ D := by
  induction l with
  | nil => intro p h; cases h
  | cons q l ih =>
    intro p h
    rcases List.mem_cons.mp h with e | h
    · rw [e]; exact x.1
    · exact ih x.2 p h
theorem eqAt_same {A : Around} {s : Shared} {a b : Addr} {vs ws : List Value} {ds : List D} (ha : s.heap.IsList a vs.toArray) (hb : s.heap.IsList b ws.toArray) (hv : AllSees s.heap vs ds) (hw : AllSees s.heap ws ds) (hu : A.units + 65 < cLine) (hne : a ≠ b) : PySem.SeqAt.EqAt A s (.ref a) (.ref b) true := by
  have := eqAt_lists ha hb hv hw hu hne
  rw [decide_eq_true rfl] at this
  exact this
theorem OctsAre.snoc {vs : List Value} {bs : List (Array UInt8)} {b : Array UInt8} {t : Tok} (h : OctsAre vs bs) : OctsAre (vs ++ [.bytes b t]) (bs ++ [b]) :=
  ⟨by rw [List.map_append, h.1]; rfl, fun v hv => by
    rcases List.mem_append.mp hv with hv | hv
    · exact h.2 v hv
    · exact ⟨b, t, List.mem_singleton.mp hv⟩⟩

section
local macro_rules | `(tactic| walk_at "eval DictComp") => `(tactic| refine halt_of ?_)
local macro_rules | `(tactic| walk_at "call type:list") => `(tactic| refine halt_of ?_)
local macro_rules | `(tactic| walk_at "getMethod type:dict") => `(tactic| refine halt_of ?_)
local macro_rules | `(tactic| walk_at "compareOp NotEq ref ref") => `(tactic| refine halt_of ?_)
local macro_rules | `(tactic| walk_at "compareOp Eq ref ref") => `(tactic| refine halt_of ?_)
local macro_rules | `(tactic| walk_at "call builtin:sorted") => `(tactic| refine halt_of ?_)
open TI in
theorem holds_spec {w : World} {mean : ExcName → Option Value} {mg mb : Str → Option Value} {s : Shared} {Q E : Value → Shared → Prop} {l : Addr} {vs : List Value} {bs : List (Array UInt8)} {ll : List Env} {frs : List (Addr × Obj)}
    (Fs : Frs ll frs) (hfr : ∀ p ∈ frs, s.heap.get? p.1 = some p.2)
    (X : (hd.heap_39 w.params).In (gone s.heap (frs.map (·.1)))) (T : Tp mean mg mb (gone s.heap (frs.map (·.1))))
    (hl : (gone s.heap (frs.map (·.1))).IsList l vs.toArray) (hv : AllSees (gone s.heap (frs.map (·.1))) vs (bs.map .b)) (h39 : ∀ b ∈ bs, b ∈ rows39) (hz : bs.length ≤ 9) (hne : bs ≠ [])
    (h : ∀ h' tk, KpF frs s.heap h' → Q (.bool true) { s with heap := h', toks := tk }) :
    wpAny (Md w) (lvf ll 850 8500) (call (.ref 193) [.ref l]) Q E s := by
  w_on
  k_dflt (refine' enterF (binds := [(Str.ofString "rows", .ref l)]) X T hfr ?ho ?hcd ?hroom ?hb ?hl ?c1 ?c2 ?c3 ?c4 ?_; walk_at "m enter")
  intro L h₁ F N
  refine absF ?_
  walk_at "m steps"
  refine Halt.on (absQ fun st9 tk9 P9 hP9 => ?_)
  refine lower (texts_spec (X.keeps F.keep) (T.keeps F.keep) (hl.at fun o e => F.keep _ o e) (hv.kp F.keep) (by omega) h39 ?_) rfl (Nat.le_of_ble_eq_true rfl) (Nat.le_of_ble_eq_true rfl)
  intro h2 tk2 rt wt nt k2 hr2 ho2 st
  obtain ⟨F2, N2⟩ := addNew F N k2 hr2 ho2
  have ct := newsLt N hr2
  clear F N k2 hr2 ho2
  refine hP9 _ _ _ ?_
  walk_at "m steps"
  rename Fr _ _ _ _ => F3
  rename News _ _ _ _ => N3
  have hvl : vs.length = bs.length := by have := hv.length; rwa [List.length_map] at this
  refine Halt.on (LCg.CompSrc.base rfl F3 N3 hl (by rw [sizeLine_eq, List.size_toArray]; omega) ?_)
  intro g
  refine rest_ind (NumsJ ((rt, listOf wt.toArray nt) :: frs) bs) ⟨[], rfl, rfl, .nil⟩ ?_ ?_
  · clear F3 N3
    intro i ys nw v I oI C oC D m₂ h4 tk4 E' hi hJ hPv hC hx F4 N4 off ne
    refine absQ fun st tk4 Q9 hQ9 => ?_
    obtain ⟨Eg, rfl, hE, hys⟩ := hJ
    have hP := hPv
    obtain ⟨b, tb, hb1, rfl⟩ := AllSees.byt hv hP
    have hb39 := h39 b (List.mem_of_getElem? hb1)
    have hb3 := row_size b hb39
    walk_at "m steps"
    refine lb_call rfl (by omega) ?_
    intro h5 tk5 r5 w5 n5 k5 hr5 ho5 hi5
    obtain ⟨F5, N5⟩ := addNew F4 N4 k5 hr5 ho5
    have c5 := newsLt N4 hr5
    exact hQ9 _ _ _ (nums_turn F5 N5 c5 off hE hys hi5 hb1 (fun _ => .inl hl))
  · clear F3 N3
    rintro ys nw ⟨Eg, rfl, hE, hys⟩
    intro D2 h6 tk6 F6 N6 o6
    rw [List.take_of_length_le (by simp; omega)] at hys
    replace N6 : News _ L h6 ((D2, listOf ys.toArray _) :: (Eg ++ (rt, listOf wt.toArray nt) :: frs)) := N6
    walk_at "m steps"
    refine Halt.on (absQ fun st9 tk9 P9 hP9 => ?_)
    refine lower (once_spec (X.keeps F6.keep) (T.keeps F6.keep) (hl.at fun o e => F6.keep _ o e) (hv.kp F6.keep) (by rw [List.length_map]; omega) ?_) rfl (Nat.le_of_ble_eq_true rfl) (Nat.le_of_ble_eq_true rfl)
    intro h7 tk7 ro wo no k7 hr7 ho7 so
    obtain ⟨F7, N7⟩ := addNew F6 N6 k7 hr7 ho7
    replace N7 : News _ L h7 ((ro, listOf wo.toArray no) :: (D2, listOf ys.toArray ys.length) :: (rt, listOf wt.toArray nt) :: (Eg ++ frs)) := fun p hp => N7 p (by simp only [List.mem_cons, List.mem_append] at hp ⊢; rcases hp with h | h | h | h | h <;> simp [h])
    have hvo := so _ hv
    rw [once_eq, onceG_map D.b bs (fun a _ b _ q => D.b.inj q)] at hvo
    have h39o : ∀ b ∈ onceG bs, b ∈ rows39 := fun b hb => h39 b (mem_onceG.mp hb)
    have hlo := onceG_len bs
    have hwo : wo.length = (onceG bs).length := by have := hvo.length; rwa [List.length_map] at this
    clear F6 N6 k7 hr7 ho7 so
    refine hP9 _ _ _ ?_
    walk_at "m steps"
    rename Fr _ _ _ _ => F8
    rename News _ _ _ _ => N8
    refine Halt.on (LCg.CompSrc.ledger rfl F8 N8 (.head _) (by rw [sizeLine_eq, List.size_toArray]; omega) ?_)
    intro g2
    refine rest_ind (fun i zs nw => nw = (ro, listOf wo.toArray no) :: (D2, listOf ys.toArray ys.length) :: (rt, listOf wt.toArray nt) :: (Eg ++ frs) ∧ StrsAre zs (((onceG bs).map txt).take i)) ⟨rfl, .nil⟩ ?_ ?_
    · clear F8 N8
      intro i zs nw v I oI C oC D m₂ h4 tk4 E' hi hJ hPv hC hx F4 N4 off ne
      refine absQ fun st tk4 Q9 hQ9 => ?_
      obtain ⟨rfl, hzs⟩ := hJ
      have hP := hPv
      obtain ⟨b, tb, hb1, rfl⟩ := AllSees.byt hvo hP
      have hb39 := h39o b (List.mem_of_getElem? hb1)
      have hb3 := row_size b hb39
      have hb1' := row_pos b hb39
      walk_at "m steps"
      refine Halt.on (lower (coded_spec (X.keeps F4.keep) (T.keeps F4.keep) ⟨hb1', hb3⟩ ?_) rfl (Nat.le_of_ble_eq_true rfl) (Nat.le_of_ble_eq_true rfl))
      intro h5 tk5 t5 k5
      replace F4 := F4.keeps k5
      replace N4 := N4.grown k5
      rw [coded_txt b hb39]
      refine hQ9 _ _ _ ⟨_, _, _, rfl, F4, N4, off, .inr ⟨_, .head _, rfl, _, rfl⟩, rfl, ?_⟩
      rw [take_snoc (a := txt b) (by rw [List.getElem?_map, hb1]; rfl)]
      exact strsSnoc hzs
    · clear F8 N8
      rintro zs nw ⟨rfl, hzs⟩
      intro Dd h9 tk9 F9 N9 o9
      rw [List.take_of_length_le (by simp; omega)] at hzs
      replace N9 : News _ L h9 ((Dd, listOf zs.toArray zs.length) :: (ro, listOf wo.toArray no) :: (D2, listOf ys.toArray ys.length) :: (rt, listOf wt.toArray nt) :: (Eg ++ frs)) := N9
      walk_at "m steps"
      refine Halt.on (LCg.CompSrc.base rfl F9 N9 hl (by rw [sizeLine_eq, List.size_toArray]; omega) ?_)
      intro g3
      refine rest_ind (fun i us nw => nw = (Dd, listOf zs.toArray zs.length) :: (ro, listOf wo.toArray no) :: (D2, listOf ys.toArray ys.length) :: (rt, listOf wt.toArray nt) :: (Eg ++ frs) ∧ StrsAre us ((bs.map txt).take i)) ⟨rfl, .nil⟩ ?_ ?_
      · clear F9 N9
        intro i us nw v I oI C oC D m₂ h4 tk4 E' hi hJ hPv hC hx F4 N4 off ne
        refine absQ fun st tk4 Q9 hQ9 => ?_
        obtain ⟨rfl, hus⟩ := hJ
        have hP := hPv
        obtain ⟨b, tb, hb1, rfl⟩ := AllSees.byt hv hP
        have hb39 := h39 b (List.mem_of_getElem? hb1)
        have hb3 := row_size b hb39
        have hb1' := row_pos b hb39
        walk_at "m steps"
        refine Halt.on (lower (coded_spec (X.keeps F4.keep) (T.keeps F4.keep) ⟨hb1', hb3⟩ ?_) rfl (Nat.le_of_ble_eq_true rfl) (Nat.le_of_ble_eq_true rfl))
        intro h5 tk5 t5 k5
        replace F4 := F4.keeps k5
        replace N4 := N4.grown k5
        walk_at "m steps"
        rw [coded_txt b hb39]
        refine hQ9 _ _ _ ⟨_, _, _, rfl, F4, N4, off, .inl hl, rfl, ?_⟩
        rw [take_snoc (a := txt b) (by rw [List.getElem?_map, hb1]; rfl)]
        exact strsSnoc hus
      · clear F9 N9
        rintro us nw ⟨rfl, hus⟩
        intro Dc h10 tk10 F10 N10 o10
        rw [List.take_of_length_le (by simp; omega)] at hus
        replace N10 : News _ L h10 ((Dc, listOf us.toArray us.length) :: (Dd, listOf zs.toArray zs.length) :: (ro, listOf wo.toArray no) :: (D2, listOf ys.toArray ys.length) :: (rt, listOf wt.toArray nt) :: (Eg ++ frs)) := N10
        walk_at "m steps"
        refine Halt.on (ne_strs ⟨_, N10.get (.tail _ (.tail _ (.tail _ (.tail _ (.head _))))), rfl, nt, rfl⟩ ⟨_, N10.get (.head _), rfl, _, rfl⟩ st hus (Nat.le_of_ble_eq_true rfl) ?_)
        rw [decide_eq_true rfl]
        replace N10 : News _ L h10 ((Dd, listOf zs.toArray zs.length) :: (ro, listOf wo.toArray no) :: (D2, listOf ys.toArray ys.length) :: (rt, listOf wt.toArray nt) :: (Eg ++ frs)) := fun p hp => N10 p (.tail _ hp)
        clear o6 o9 o10 hus
        walk_at "m steps"
        have hinj : ∀ a ∈ bs, ∀ b ∈ bs, txt a = txt b → a = b := fun a ha b hb => txt_inj a (h39 a ha) b (h39 b hb)
        refine Halt.on (lower (dd_strs (X.keeps F10.keep) (T.keeps F10.keep) ⟨_, N10.get (.tail _ (.tail _ (.tail _ (.head _)))), rfl, nt, rfl⟩ st (by rw [List.length_map]; omega) ?_) rfl (Nat.le_of_ble_eq_true rfl) (Nat.le_of_ble_eq_true rfl))
        intro h11 tk11 Dk k11 lo hDn hdk
        rw [onceG_map txt bs hinj] at hdk
        replace F10 := F10.keeps k11
        replace N10 := N10.grown k11
        walk_at "m steps"
        obtain ⟨ep, hat⟩ := hdk.dictAt
        refine Halt.on (kdl_N (kdl_dict (knd := PySem.strKind _ w) (ep := ep) lo) rfl F10 N10 hat (by rw [sizeLine_eq, List.length_map, List.length_map]; omega) ?_)
        intro Dl c h12 tk12 vl F12 N12 lt12 hl12 hv12
        have sl := keysStrs hl12 hv12
        rw [List.map_map] at sl
        replace sl : StrsAre vl ((onceG bs).map txt) := by rw [show ((fun x : Str × Value => x.1) ∘ fun x : Str => (x, Value.none)) = id from rfl, List.map_id] at sl; exact sl
        clear F10 N10 hdk hat hl12 hv12
        walk_at "m steps"
        refine Halt.on (ne_strs ⟨_, N12.get (.head _), rfl, c, rfl⟩ ⟨_, N12.get (.tail _ (.head _)), rfl, _, rfl⟩ sl hzs (Nat.le_of_ble_eq_true rfl) ?_)
        rw [decide_eq_true rfl]
        replace N12 : News _ L h12 ((Dd, listOf zs.toArray zs.length) :: (ro, listOf wo.toArray no) :: (D2, listOf ys.toArray ys.length) :: (rt, listOf wt.toArray nt) :: (Eg ++ frs)) := fun p hp => N12 p (.tail _ hp)
        clear sl lt12 k11 lo hDn
        walk_at "m steps"
        refine Halt.on (absQ fun st9 tk9 P9 hP9 => ?_)
        refine lower (dd_strs (X.keeps F12.keep) (T.keeps F12.keep) ⟨_, N12.get (.tail _ (.tail _ (.tail _ (.head _)))), rfl, nt, rfl⟩ st (by rw [List.length_map]; omega) ?_) rfl (Nat.le_of_ble_eq_true rfl) (Nat.le_of_ble_eq_true rfl)
        intro h13 tk13 Dj k13 loj hDj hdj
        rw [onceG_map txt bs hinj] at hdj
        obtain ⟨oDj, hoDj, hDjk⟩ : ∃ o, h13.get? Dj = some o ∧ ∀ g : Heap, g.get? Dj = some o → g.DictOf (PySem.strKind PySem.Challenge.rw_oy0079_01.row.prog w) Dj (((onceG bs).map txt).map fun x => (x, Value.none)) := let ⟨o, es, ep, e, r⟩ := hdj; ⟨o, e, fun g e' => ⟨o, es, ep, e', r⟩⟩
        obtain ⟨F13, N13⟩ := addNew F12 N12 k13 hDj hoDj
        clear F12 N12 k13 hDj hdj
        refine hP9 _ _ _ ?_
        walk_at "m steps"
        have hnd : ((onceG bs).map txt).Nodup := by rw [← onceG_map txt bs hinj]; exact nodup_onceG _
        refine Halt.on (DictComp_T (cl := []) ?hh ?hclos ?hcell ?hkind ?hnames ?hx ?hval ?hk ?hl ?hd ?_ ?hs)
        (case hh => with_unfolding_all rfl); (case hclos => with_unfolding_all rfl); (case hcell => decide); (case hkind => with_unfolding_all rfl); (case hnames => decide); (case hx => with_unfolding_all rfl); (case hval => intro _; with_unfolding_all rfl); (case hk => intro _; with_unfolding_all rfl); (case hl => intro _; with_unfolding_all rfl); (case hd => decide); (case hs => intro _; with_unfolding_all rfl)
        walk_at "m steps"
        refine Halt.on ⟨Dd, zs, _, rfl, ⟨_, N13.get (.tail _ (.head _)), rfl, _, rfl⟩, hzs, by rw [List.length_map]; omega, ?_⟩
        intro Dm h14 tk14 k14 hDm hdm
        rw [onceG_nodup _ hnd] at hdm
        have lom := notMods T (none_of F13.keep hDm)
        replace F13 := F13.keeps k14
        replace N13 := N13.grown k14
        walk_at "m steps"
        refine Halt.on (ne_dicts loj lom (Nat.le_of_ble_eq_true rfl) (hDjk _ (N13.get (.head _))) hdm ?_)
        replace N13 : News _ L h14 ((Dd, listOf zs.toArray zs.length) :: (ro, listOf wo.toArray no) :: (D2, listOf ys.toArray ys.length) :: (rt, listOf wt.toArray nt) :: (Eg ++ frs)) := fun p hp => N13 p (.tail _ hp)
        clear hDjk hdm k14 hDm hoDj loj lom
        walk_at "m steps"
        obtain ⟨b0, bt, hbt⟩ : ∃ b0 bt, bs = b0 :: bt := by
          cases bs with
          | nil => exact absurd rfl hne
          | cons b0 bt => exact ⟨b0, bt, rfl⟩
        have sub0 : ∀ p ∈ Eg, p ∈ (Dd, listOf zs.toArray zs.length) :: (ro, listOf wo.toArray no) :: (D2, listOf ys.toArray ys.length) :: (rt, listOf wt.toArray nt) :: (Eg ++ frs) := fun p hp => .tail _ (.tail _ (.tail _ (.tail _ (List.mem_append_left _ hp))))
        refine Halt.on (absQ fun st9 tk9 P9 hP9 => ?_)
        refine lowerx (dedup_spec (ha := none) (ex := []) (.inl ⟨rfl, rfl⟩) (fun _ hp => nomatch hp) (X.keeps F13.keep) (T.keeps F13.keep) ⟨_, N13.get (.tail _ (.tail _ (.head _))), rfl, _, rfl⟩ (hys.sees N13 sub0) (by rw [List.length_map]; omega) ?_) rfl (Nat.le_of_ble_eq_true rfl) (Nat.le_of_ble_eq_true rfl)
        intro h15 tk15 ru wu nu k15 hru hou su
        rw [once_nums] at su
        obtain ⟨F15, N15⟩ := addNew F13 N13 k15 hru hou
        replace N15 : News _ L h15 (((ru, listOf wu.toArray nu) :: (Dd, listOf zs.toArray zs.length) :: (ro, listOf wo.toArray no) :: (D2, listOf ys.toArray ys.length) :: (rt, listOf wt.toArray nt) :: Eg) ++ frs) := N15
        clear F13 N13 k15 hru hou sub0
        refine hP9 _ _ _ ?_
        walk_at "m steps"
        obtain ⟨oL, es, ep', hL, hLd, hLr⟩ := id F15.ns
        have hnd15 : ((ru, listOf wu.toArray nu) :: (Dd, listOf zs.toArray zs.length) :: (ro, listOf wo.toArray no) :: (D2, listOf ys.toArray ys.length) :: (rt, listOf wt.toArray nt) :: Eg).all notDict = true := by simp [notDict, hE]
        have g15 := baseGone F15 N15
        have ng15 := newsGone Fs N15 hnd15
        have hfr15 : ∀ p ∈ (L, oL) :: frs, h15.get? p.1 = some p.2 := fun p hp => by
          rcases List.mem_cons.mp hp with rfl | hp
          · exact hL
          · exact (N15 p (List.mem_append_right _ hp)).1
        have hvn : AllSees (gone h15 (L :: frs.map (·.1))) ys (.n (KBw.bInts b0) :: bt.map numD) := by
          have e : (D.n (KBw.bInts b0) :: bt.map numD) = bs.map numD := by rw [hbt]; rfl
          rw [e]
          exact hys.sees' (fun p hp => ng15 p (.tail _ (.tail _ (.tail _ (.tail _ (.tail _ hp))))))
        refine Halt.on (lowerf (d := 890) (u := 8900) ?_ rfl rfl (Nat.le_of_ble_eq_true rfl) (Nat.le_of_ble_eq_true rfl))
        refine dd_true (frs := (L, oL) :: frs) ⟨(fun q => nomatch q), rfl, ⟨es, ep', hLd⟩, Fs⟩ hfr15 (X.keeps g15) (T.keeps g15) ⟨_, ng15 _ (.tail _ (.tail _ (.tail _ (.head _)))), rfl, _, rfl⟩ hvn (by rw [hbt, List.length_cons] at hz; rw [List.length_map]; omega) ?_
        intro h16 tk16 rv wv nv k16 hrv hov sv
        replace sv : Sub ys (bs.map numD) wv ((onceG bs).map numD) := by
          have : (D.n (KBw.bInts b0) :: bt.map numD) = bs.map numD := by rw [hbt]; rfl
          rw [this, once_nums] at sv
          exact sv
        obtain ⟨frs2, SU2, F16, N16⟩ := backF F15 N15 (fun p hp => new_apart Fs N15 hnd15 hp) hL k16
        have Fs2 := Fs.up SU2
        replace N16 := addOne F15 F16 N16 hrv hov
        replace N16 : News _ L h16 ((rv, listOf wv.toArray nv) :: (ru, listOf wu.toArray nu) :: (Dd, listOf zs.toArray zs.length) :: (ro, listOf wo.toArray no) :: (D2, listOf ys.toArray ys.length) :: (rt, listOf wt.toArray nt) :: (Eg ++ frs2)) := N16
        clear F15 N15 hnd15 g15 ng15 hfr15 hvn k16 hrv hov hL hLd hLr
        walk_at "m steps"
        rename Fr _ _ _ _ => F17
        rename News _ _ _ _ => N17
        refine Halt.on (LCg.CompSrc.ledger rfl F17 N17 (.tail _ (.tail _ (.tail _ (.tail _ (.head _))))) (by rw [sizeLine_eq, List.size_toArray]; omega) ?_)
        intro g4
        refine rest_ind (NumsJ _ (onceG bs)) ⟨[], rfl, rfl, .nil⟩ ?_ ?_
        · clear F17 N17
          intro i us nw v I oI C oC D m₂ h4 tk4 E' hi hJ hPv hC hx F4 N4 off ne
          refine absQ fun st tk4 Q9 hQ9 => ?_
          obtain ⟨Ea, rfl, hEa, hus⟩ := hJ
          have hP := hPv
          obtain ⟨b, tb, hb1, rfl⟩ := AllSees.byt hvo hP
          have hb3 := row_size b (h39o b (List.mem_of_getElem? hb1))
          walk_at "m steps"
          refine lb_call rfl (by omega) ?_
          intro h5 tk5 r5 w5 n5 k5 hr5 ho5 hi5
          obtain ⟨F5, N5⟩ := addNew F4 N4 k5 hr5 ho5
          have c5 := newsLt N4 hr5
          clear F4 N4
          exact hQ9 _ _ _ (nums_turn F5 N5 c5 off hEa hus hi5 hb1 (fun _ => .inr ⟨_, List.mem_append_right _ (List.mem_append_right _ (.tail _ (.tail _ (.tail _ (.tail _ (.head _)))))), rfl, _, rfl⟩))
        clear F17 N17
        rintro us1 nw ⟨E1, rfl, hE1, hus1⟩
        intro D3 h18 tk18 F18 N18 o18
        rw [List.take_of_length_le (by rw [List.size_toArray]; omega)] at hus1
        walk_at "m steps"
        refine Halt.on (LCg.CompSrc.ledger rfl F18 N18 (.tail _ (List.mem_append_right _ (.tail _ (.tail _ (.tail _ (.tail _ (.head _))))))) (by rw [sizeLine_eq, List.size_toArray]; omega) ?_)
        intro g5
        refine rest_ind (NumsJ _ (onceG bs)) ⟨[], rfl, rfl, .nil⟩ ?_ ?_
        · clear F18 N18
          intro i us nw v I oI C oC D m₂ h4 tk4 E' hi hJ hPv hC hx F4 N4 off ne
          refine absQ fun st tk4 Q9 hQ9 => ?_
          obtain ⟨Ea, rfl, hEa, hus⟩ := hJ
          have hP := hPv
          obtain ⟨b, tb, hb1, rfl⟩ := AllSees.byt hvo hP
          have hb3 := row_size b (h39o b (List.mem_of_getElem? hb1))
          walk_at "m steps"
          refine lb_call rfl (by omega) ?_
          intro h5 tk5 r5 w5 n5 k5 hr5 ho5 hi5
          obtain ⟨F5, N5⟩ := addNew F4 N4 k5 hr5 ho5
          have c5 := newsLt N4 hr5
          clear F4 N4
          exact hQ9 _ _ _ (nums_turn F5 N5 c5 off hEa hus hi5 hb1 (fun _ => .inr ⟨_, List.mem_append_right _ (List.mem_append_right _ (.tail _ (List.mem_append_right _ (.tail _ (.tail _ (.tail _ (.tail _ (.head _)))))))), rfl, _, rfl⟩))
        clear F18 N18
        rintro us2 nw ⟨E2, rfl, hE2, hus2⟩
        intro D4 h19 tk19 F19 N19 o19
        rw [List.take_of_length_le (by rw [List.size_toArray]; omega)] at hus2
        walk_at "m steps"
        rename Fr _ _ _ _ => F20
        rename News _ _ _ _ => N20
        have old20 : News _ L _ (_ :: (rv, listOf wv.toArray nv) :: (ru, listOf wu.toArray nu) :: (Dd, listOf zs.toArray zs.length) :: (ro, listOf wo.toArray no) :: (D2, listOf ys.toArray ys.length) :: (rt, listOf wt.toArray nt) :: (Eg ++ frs2)) := fun p hp => N20 p (.tail _ (.tail _ (List.mem_append_right _ (.tail _ (List.mem_append_right _ hp)))))
        have see := hys.sees old20 (fun p hp => .tail _ (.tail _ (.tail _ (.tail _ (.tail _ (.tail _ (.tail _ (List.mem_append_left _ hp))))))))
        have see1 := hus1.sees N20 (fun p hp => .tail _ (.tail _ (List.mem_append_right _ (.tail _ (List.mem_append_left _ hp)))))
        have see2 := hus2.sees N20 (fun p hp => .tail _ (.tail _ (List.mem_append_left _ hp)))
        refine Halt.on (ne_pairs ⟨_, old20.get (.head _), rfl, _, rfl⟩ ⟨_, N20.get (.head _), rfl, _, rfl⟩
          (eqAt_same ⟨_, old20.get (.tail _ (.tail _ (.head _))), rfl, _, rfl⟩ ⟨_, N20.get (.tail _ (.tail _ (List.mem_append_right _ (.head _)))), rfl, _, rfl⟩ (su _ see) see1 (Nat.le_of_ble_eq_true rfl) (off1_mem _ o18 _ (List.mem_append_right _ (.tail _ (.tail _ (.head _))))))
          (eqAt_same ⟨_, old20.get (.tail _ (.head _)), rfl, _, rfl⟩ ⟨_, N20.get (.tail _ (.head _)), rfl, _, rfl⟩ (sv _ see) see2 (Nat.le_of_ble_eq_true rfl) (off1_mem _ o19 _ (List.mem_append_right _ (.tail _ (List.mem_append_right _ (.tail _ (.head _)))))))
          (Nat.le_of_ble_eq_true rfl) ?_)
        have N21 : News _ L _ ((Dd, listOf zs.toArray zs.length) :: (ro, listOf wo.toArray no) :: (D2, listOf ys.toArray ys.length) :: (rt, listOf wt.toArray nt) :: (Eg ++ frs2)) := fun p hp => old20 p (.tail _ (.tail _ (.tail _ hp)))
        clear old20 see see1 see2 N20 o18 o19 hus1 hus2 hE1 hE2 su sv
        walk_at "m steps"
        obtain ⟨oL, es, ep', hL, hLd, hLr⟩ := id F20.ns
        replace N21 : News _ L _ (((Dd, listOf zs.toArray zs.length) :: (ro, listOf wo.toArray no) :: (D2, listOf ys.toArray ys.length) :: (rt, listOf wt.toArray nt) :: Eg) ++ frs2) := N21
        have hnd21 : ((Dd, listOf zs.toArray zs.length) :: (ro, listOf wo.toArray no) :: (D2, listOf ys.toArray ys.length) :: (rt, listOf wt.toArray nt) :: Eg).all notDict = true := by simp [notDict, hE]
        have g21 := baseGone F20 N21
        have ng21 := newsGone Fs2 N21 hnd21
        have hfr21 : ∀ p ∈ (L, oL) :: frs2, Heap.get? _ p.1 = some p.2 := fun p hp => by
          rcases List.mem_cons.mp hp with rfl | hp
          · exact hL
          · exact (N21 p (List.mem_append_right _ hp)).1
        have ehn : (D.n (KBw.bInts b0) :: bt.map numD) = bs.map numD := by rw [hbt]; rfl
        refine Halt.on (lowerf (d := 880) (u := 8800) ?_ rfl rfl (Nat.le_of_ble_eq_true rfl) (Nat.le_of_ble_eq_true rfl))
        refine refused_spec (frs := (L, oL) :: frs2) (ns := KBw.bInts b0) (ds := bt.map numD) ⟨(fun q => nomatch q), rfl, ⟨es, ep', hLd⟩, Fs2⟩ hfr21 (X.keeps g21) (T.keeps g21) ⟨_, ng21 _ (.tail _ (.tail _ (.head _))), rfl, _, rfl⟩ (by rw [ehn]; exact hys.sees' (fun p hp => ng21 p (.tail _ (.tail _ (.tail _ (.tail _ hp)))))) ?_
        intro h22 tk22 k22
        obtain ⟨frs3, SU3, F22, N22⟩ := backF F20 N21 (fun p hp => new_apart Fs2 N21 hnd21 hp) hL k22
        replace N22 : News _ L h22 ((Dd, listOf zs.toArray zs.length) :: (ro, listOf wo.toArray no) :: (rt, listOf wt.toArray nt) :: frs3) := fun p hp => N22 p (by
          rcases List.mem_cons.mp hp with h | hp
          · exact h ▸ .head _
          · rcases List.mem_cons.mp hp with h | hp
            · exact h ▸ .tail _ (.head _)
            · rcases List.mem_cons.mp hp with h | hp
              · exact h ▸ .tail _ (.tail _ (.tail _ (.head _)))
              · exact List.mem_append_right _ hp)
        clear F20 N21 hnd21 g21 ng21 hfr21 ehn k22 hL hLd hLr hys hE
        walk_at "m steps"
        refine Halt.on (absQ fun st9 tk9 P9 hP9 => ?_)
        refine lower (emptied_spec (X.keeps F22.keep) (T.keeps F22.keep) ⟨_, N22.get (.tail _ (.tail _ (.head _))), rfl, nt, rfl⟩ st (by rw [List.length_map]; omega) ?_) rfl (Nat.le_of_ble_eq_true rfl) (Nat.le_of_ble_eq_true rfl)
        intro h23 tk23 rk wk tb nk k23 hrk hok sk hsort hmem
        obtain ⟨F23, N23⟩ := addNew F22 N22 k23 hrk hok
        clear F22 N22 k23 hrk hok
        refine hP9 _ _ _ ?_
        walk_at "m steps"
        rename Fr _ _ _ _ => F24
        rename News _ _ _ _ => N24
        refine Halt.on (absQ fun st9 tk9 P9 hP9 => ?_)
        refine sorted_texts F24 N24 ⟨_, N24.get (.tail _ (.head _)), rfl, _, rfl⟩ hzs (by rw [List.length_map]; omega) ?_
        intro h25 rs vs25 xs25 e25 F25 N25 lt25 sx hperm hpw
        have heq := taken_sorted hsort hmem hnd (fun z => by rw [← onceG_map txt bs hinj]; exact mem_onceG) hperm hpw
        subst heq
        refine hP9 _ _ _ ?_
        walk_at "m steps"
        refine Halt.on (ne_strs ⟨_, N25.get (.tail _ (.head _)), rfl, _, rfl⟩ ⟨_, N25.get (.head _), rfl, _, rfl⟩ sk sx (Nat.le_of_ble_eq_true rfl) ?_)
        rw [decide_eq_true rfl]
        have N26 : News _ L _ ((rk, listOf wk.toArray nk) :: (ro, listOf wo.toArray no) :: frs3) := fun p hp => N25 p (by
          rcases List.mem_cons.mp hp with h | hp
          · exact h ▸ .tail _ (.head _)
          · rcases List.mem_cons.mp hp with h | hp
            · exact h ▸ .tail _ (.tail _ (.tail _ (.head _)))
            · exact .tail _ (.tail _ (.tail _ (.tail _ (.tail _ hp)))))
        obtain ⟨cs, hcs, hcp⟩ := perm_pre txt hperm _ rfl
        subst hcs
        clear F24 N24 N25 sx hperm hpw hsort hmem lt25
        walk_at "m steps"
        have hlk : wk.length = cs.length := by rw [strsLen sk, List.length_map]
        have hlc : cs.length = (onceG bs).length := hcp.length_eq
        refine Halt.on (LCg.CompSrc.ledger rfl F25 N26 (.head _) (by rw [sizeLine_eq, List.size_toArray]; omega) ?_)
        intro g6
        refine rest_ind (fun i us nw => nw = (rk, listOf wk.toArray nk) :: (ro, listOf wo.toArray no) :: frs3 ∧ OctsAre us (cs.take i)) ⟨rfl, rfl, fun _ hm => nomatch hm⟩ ?_ ?_
        · clear F25 N26
          intro i us nw v I oI C oC D m₂ h4 tk4 E' hi hJ hPv hC hx F4 N4 off ne
          refine absQ fun st tk4 Q9 hQ9 => ?_
          obtain ⟨rfl, hus⟩ := hJ
          have hP := hPv
          obtain ⟨x, t, rfl, hx1⟩ := strsAt sk i v (by simpa using hP)
          rw [List.getElem?_map] at hx1
          obtain ⟨b, hb1, hb2⟩ := Option.map_eq_some_iff.mp hx1
          subst hb2
          have hb39 := h39o b (hcp.mem_iff.mp (List.mem_of_getElem? hb1))
          walk_at "m steps"
          refine Halt.on (lower (b64dec_spec (X.keeps F4.keep) (T.keeps F4.keep) hb39 ?_) rfl (Nat.le_of_ble_eq_true rfl) (Nat.le_of_ble_eq_true rfl))
          intro h5 tk5 t5 k5
          replace F4 := F4.keeps k5
          replace N4 := N4.grown k5
          walk_at "m steps"
          refine hQ9 _ _ _ ⟨_, _, _, rfl, F4, N4, off, .inr ⟨_, .head _, rfl, _, rfl⟩, rfl, ?_⟩
          rw [take_snoc hb1]
          exact hus.snoc
        clear F25 N26
        rintro us nw ⟨rfl, hus⟩
        intro Dq h27 tk27 F27 N27 o27
        rw [List.take_of_length_le (by rw [List.size_toArray]; omega)] at hus
        walk_at "m steps"
        refine Halt.on (sorted_octs F27 N27 ⟨_, N27.get (.head _), rfl, _, rfl⟩ hus (by omega) ?_)
        intro h28 r1 v1 b1 e28 F28 N28 lt28 o1 hp1 hs1
        clear F27 N27 o27 hus
        walk_at "m steps"
        refine Halt.on (absQ fun st9 tk9 P9 hP9 => ?_)
        refine sorted_octs F28 N28 ⟨_, N28.get (.tail _ (.tail _ (.tail _ (.head _)))), rfl, _, rfl⟩ (OctsAre.of hvo) (by omega) ?_
        intro h29 r2 v2 b2 e29 F29 N29 lt29 o2 hp2 hs2
        have hbb := octs_sorted hp1 hcp hp2 hs1 hs2
        subst hbb
        refine hP9 _ _ _ ?_
        walk_at "m steps"
        refine Halt.on (eq_sees ⟨_, N29.get (.tail _ (.head _)), rfl, _, rfl⟩ ⟨_, N29.get (.head _), rfl, _, rfl⟩ o1.sees o2.sees (Nat.le_of_ble_eq_true rfl) ?_)
        rw [decide_eq_true rfl]
        have N30 : News _ L _ ([] ++ frs3) := fun p hp => N29 p (.tail _ (.tail _ (.tail _ (.tail _ (.tail _ hp)))))
        clear F28 N28 N29
        walk_at "m steps"
        rename Fr _ _ _ _ => F30
        exact h _ _ (kpf_of rfl F30 N30 (SU2.trans SU3))
end

theorem sameSet_mem {a b : List D} : sameSet a b = true ↔ ∀ d, d ∈ a ↔ d ∈ b := by
  unfold sameSet
  rw [Bool.and_eq_true, List.all_eq_true, List.all_eq_true]
  constructor
  · rintro ⟨h1, h2⟩ d
    exact ⟨fun h => of_decide_eq_true (h1 d h), fun h => of_decide_eq_true (h2 d h)⟩
  · intro h
    exact ⟨fun d hd => decide_eq_true ((h d).mp hd), fun d hd => decide_eq_true ((h d).mpr hd)⟩
/-- both lists have the rows of the other -/
def SameRows (a b : List (Array UInt8)) : Prop := ∀ r, r ∈ a ↔ r ∈ b
theorem same_map (f : Array UInt8 → D) {a b : List (Array UInt8)} (hf : ∀ x ∈ a ++ b, ∀ y ∈ a ++ b, f x = f y → x = y) : sameSet (a.map f) (b.map f) = true ↔ SameRows a b := by
  rw [sameSet_mem]
  constructor
  · intro h r
    constructor
    · intro hr
      obtain ⟨y, hy, e⟩ := List.mem_map.mp ((h (f r)).mp (List.mem_map_of_mem hr))
      exact hf y (List.mem_append_right _ hy) r (List.mem_append_left _ hr) e ▸ hy
    · intro hr
      obtain ⟨y, hy, e⟩ := List.mem_map.mp ((h (f r)).mpr (List.mem_map_of_mem hr))
      exact hf y (List.mem_append_left _ hy) r (List.mem_append_right _ hr) e ▸ hy
  · intro h d
    constructor
    · intro hd
      obtain ⟨y, hy, e⟩ := List.mem_map.mp hd
      exact List.mem_map.mpr ⟨y, (h y).mp hy, e⟩
    · intro hd
      obtain ⟨y, hy, e⟩ := List.mem_map.mp hd
      exact List.mem_map.mpr ⟨y, (h y).mpr hy, e⟩
theorem same_bool {p q : Bool} {P : Prop} (h1 : p = true ↔ P) (h2 : q = true ↔ P) : p = q := Bool.eq_iff_iff.mpr (h1.trans h2.symm)
theorem same_b (a b : List (Array UInt8)) : sameSet (a.map D.b) (b.map D.b) = true ↔ SameRows a b := same_map D.b fun _ _ _ _ e => D.b.inj e
theorem same_n (a b : List (Array UInt8)) : sameSet (a.map numD) (b.map numD) = true ↔ SameRows a b := same_map numD fun _ _ _ _ e => bInts_inj (D.n.inj e)
theorem same_s {a b : List (Array UInt8)} (ha : ∀ x ∈ a, x ∈ rows39) (hb : ∀ x ∈ b, x ∈ rows39) : sameSet ((a.map txt).map D.s) ((b.map txt).map D.s) = true ↔ SameRows a b := by
  rw [List.map_map, List.map_map]
  have h39 : ∀ x ∈ a ++ b, x ∈ rows39 := fun x hx => (List.mem_append.mp hx).elim (ha x) (hb x)
  exact same_map (D.s ∘ txt) fun x hx y hy e => txt_inj x (h39 x hx) y (h39 y hy) (D.s.inj e)
theorem same_all {a b : List (Array UInt8)} : sameSet ((a.map D.b ++ (a.map txt).map D.s) ++ a.map numD) ((b.map numD ++ b.map D.b) ++ (b.map txt).map D.s) = true ↔ SameRows a b := by
  rw [sameSet_mem]
  have key : ∀ d, (d ∈ (a.map D.b ++ (a.map txt).map D.s) ++ a.map numD ↔ (∃ r ∈ a, d = D.b r) ∨ (∃ r ∈ a, d = D.s (txt r)) ∨ (∃ r ∈ a, d = numD r)) ∧ (d ∈ (b.map numD ++ b.map D.b) ++ (b.map txt).map D.s ↔ (∃ r ∈ b, d = D.b r) ∨ (∃ r ∈ b, d = D.s (txt r)) ∨ (∃ r ∈ b, d = numD r)) := by
    intro d
    constructor
    · simp only [List.mem_append, List.mem_map]
      constructor
      · rintro ((⟨r, hr, rfl⟩ | ⟨_, ⟨r, hr, rfl⟩, rfl⟩) | ⟨r, hr, rfl⟩)
        · exact .inl ⟨r, hr, rfl⟩
        · exact .inr (.inl ⟨r, hr, rfl⟩)
        · exact .inr (.inr ⟨r, hr, rfl⟩)
      · rintro (⟨r, hr, rfl⟩ | ⟨r, hr, rfl⟩ | ⟨r, hr, rfl⟩)
        · exact .inl (.inl ⟨r, hr, rfl⟩)
        · exact .inl (.inr ⟨_, ⟨r, hr, rfl⟩, rfl⟩)
        · exact .inr ⟨r, hr, rfl⟩
    · simp only [List.mem_append, List.mem_map]
      constructor
      · rintro ((⟨r, hr, rfl⟩ | ⟨r, hr, rfl⟩) | ⟨_, ⟨r, hr, rfl⟩, rfl⟩)
        · exact .inr (.inr ⟨r, hr, rfl⟩)
        · exact .inl ⟨r, hr, rfl⟩
        · exact .inr (.inl ⟨r, hr, rfl⟩)
      · rintro (⟨r, hr, rfl⟩ | ⟨r, hr, rfl⟩ | ⟨r, hr, rfl⟩)
        · exact .inl (.inr ⟨r, hr, rfl⟩)
        · exact .inr ⟨_, ⟨r, hr, rfl⟩, rfl⟩
        · exact .inl (.inl ⟨r, hr, rfl⟩)
  constructor
  · intro h r
    have h1 := ((key (D.b r)).1.symm.trans (h (D.b r))).trans (key (D.b r)).2
    have e : ∀ c : List (Array UInt8), ((∃ x ∈ c, D.b r = D.b x) ∨ (∃ x ∈ c, D.b r = D.s (txt x)) ∨ (∃ x ∈ c, D.b r = numD x)) ↔ r ∈ c := fun c => by
      constructor
      · rintro (⟨x, hx, q⟩ | ⟨x, _, q⟩ | ⟨x, _, q⟩)
        · exact D.b.inj q ▸ hx
        · cases q
        · cases q
      · exact fun hr => .inl ⟨r, hr, rfl⟩
    rw [e, e] at h1
    exact h1
  · intro h d
    rw [(key d).1, (key d).2]
    have e : ∀ f : Array UInt8 → D, (∃ r ∈ a, d = f r) ↔ ∃ r ∈ b, d = f r := fun f => ⟨fun ⟨r, hr, q⟩ => ⟨r, (h r).mp hr, q⟩, fun ⟨r, hr, q⟩ => ⟨r, (h r).mpr hr, q⟩⟩
    rw [e D.b, e (fun r => D.s (txt r)), e numD]
/-- the sorted lists of the rows kept once are the same just where the rows are -/
theorem same_sorted {a b a' b' : List (Array UInt8)} (ha : a'.Perm (onceG a)) (hb : b'.Perm (onceG b)) (sa : a'.Pairwise OLe) (sb : b'.Pairwise OLe) : decide (a'.map D.b = b'.map D.b) = true ↔ SameRows a b := by
  rw [decide_eq_true_eq, List.map_inj_right (fun _ _ e => D.b.inj e)]
  constructor
  · rintro rfl r
    rw [← mem_onceG (l := a), ← mem_onceG (l := b), ← ha.mem_iff, ← hb.mem_iff]
  · intro h
    have hp : (onceG a).Perm (onceG b) := (List.perm_ext_iff_of_nodup (nodup_onceG a) (nodup_onceG b)).mpr fun r => by rw [mem_onceG, mem_onceG]; exact h r
    exact List.Perm.eq_of_pairwise (le := OLe) (fun _ _ _ _ p q => p.antisymm q) sa sb ((ha.trans hp).trans hb.symm)
theorem oct_of (x : Int) (k : Nat) : (octI x k).toNat.toUInt8 ∈ oct3 := by
  rcases octI_mem x k with h | h | h <;> rw [h] <;> decide
theorem row39 (x : Int) : rowOf x ∈ rows39 := by
  have hl := lenI_le x
  have h0 := oct_of x 0
  have h1 := oct_of x 1
  have h2 := oct_of x 2
  unfold rowOf rowI byteArr rows39
  rw [List.map_map]
  rw [List.mem_append, List.mem_append]
  rcases (by omega : lenI x = 1 ∨ lenI x = 2 ∨ lenI x = 3) with e | e | e <;> rw [e]
  · refine .inl (.inl (List.mem_map.mpr ⟨_, h0, ?_⟩))
    rfl
  · refine .inl (.inr (List.mem_flatMap.mpr ⟨_, h0, List.mem_map.mpr ⟨_, h1, ?_⟩⟩))
    rfl
  · refine .inr (List.mem_flatMap.mpr ⟨_, h0, List.mem_flatMap.mpr ⟨_, h1, List.mem_map.mpr ⟨_, h2, ?_⟩⟩⟩)
    rfl
theorem firsts39 (ns : List Int) : ∀ b ∈ firsts ns, b ∈ rows39 := fun b hb => by
  obtain ⟨x, _, rfl⟩ := List.mem_map.mp hb
  exact row39 x
theorem seconds39 (ns : List Int) : ∀ b ∈ seconds ns, b ∈ rows39 := fun b hb => by
  obtain ⟨x, _, rfl⟩ := List.mem_map.mp hb
  exact row39 x
theorem firsts_ne (ns : List Int) : firsts ([9, 11, 2] ++ ns) ≠ [] := by
  have : rowOf 9 ∈ firsts ([9, 11, 2] ++ ns) := List.mem_map.mpr ⟨9, List.mem_filter.mpr ⟨by simp, by decide⟩, rfl⟩
  exact List.ne_nil_of_mem this
theorem seconds_ne (ns : List Int) : seconds ([9, 11, 2] ++ ns) ≠ [] := by
  have : rowOf 11 ∈ seconds ([9, 11, 2] ++ ns) := List.mem_map.mpr ⟨11, List.mem_filter.mpr ⟨by simp, by decide⟩, rfl⟩
  exact List.ne_nil_of_mem this

theorem backL {h₀ h h' : Heap} {L : Addr} {m : Str → Option Value} {news : List (Addr × Obj)} {oL : Obj} (F : Fr h₀ L h m) (N : News h₀ L h news) (hL : h.get? L = some oL) (k : KpF [(L, oL)] h h') : Fr h₀ L h' m ∧ News h₀ L h' news := by
  have N0 : News h₀ L h (news ++ []) := by rw [List.append_nil]; exact N
  obtain ⟨frs', SU, F', N'⟩ := backF (frs := []) F N0 (fun p hp hm => (N p hp).2.1 (List.mem_singleton.mp hm)) hL k
  cases frs' with
  | nil => rw [List.append_nil] at N'; exact ⟨F', N'⟩
  | cons _ _ => exact SU.elim
theorem lawFr {h₀ h : Heap} {L : Addr} {m : Str → Option Value} {news : List (Addr × Obj)} (F : Fr h₀ L h m) (N : News h₀ L h news) :
    ∃ oL es ep, h.get? L = some oL ∧ oL.data = .dict es ep ∧ (∀ b o, h₀.get? b = some o → (TI.gone h [L]).get? b = some o) ∧ ∀ p ∈ news, (TI.gone h [L]).get? p.1 = some p.2 := by
  obtain ⟨oL, es, ep, hL, hLd, _⟩ := id F.ns
  refine ⟨oL, es, ep, hL, hLd, baseGone (frs := []) (news := []) F News.nil, fun p hp => ?_⟩
  rw [TI.gone_get (fun hm => (N p hp).2.1 (List.mem_singleton.mp hm))]
  exact (N p hp).1
def NumsA (base : List (Addr × Obj)) (bs : List (Array UInt8)) (i : Nat) (ys : List Value) (nw : List (Addr × Obj)) : Prop := ∃ E, nw = E ++ base ∧ (∀ p ∈ E, ∀ q ∈ base, q.1 ≠ p.1) ∧ NumsIn E ys (bs.take i)
open LCg in
theorem nums_turnA {h₀ h5 : Heap} {L I C D r5 : Addr} {m : Str → Option Value} {s₁ : Shared} {oI oC : Obj} {S : List (Addr × Obj) → Prop} {base Eg : List (Addr × Obj)} {bs : List (Array UInt8)} {i : Nat} {ys w5 : List Value} {n5 tk5 : Nat} {b : Array UInt8}
    (F : Fr h₀ L h5 m) (N : News h₀ L h5 ((r5, listOf w5.toArray n5) :: (I, oI) :: (C, oC) :: (D, lst ys) :: (Eg ++ base))) (c5 : ∀ p ∈ (I, oI) :: (C, oC) :: (D, lst ys) :: (Eg ++ base), p.1 ≠ r5) (off : Off3 I C D (Eg ++ base))
    (hE : ∀ p ∈ Eg, ∀ q ∈ base, q.1 ≠ p.1) (hys : NumsIn Eg ys (bs.take i)) (hi5 : IntsAre w5 (KBw.bInts b)) (hb : bs[i]? = some b) (hS : ∀ p, S (p ++ (Eg ++ base))) :
    CompEnd h₀ L m s₁ I oI C oC D (lst ys) S (fun y nw' => NumsA base bs (i + 1) (ys ++ [y]) nw') (.ref r5) { s₁ with heap := h5, toks := tk5 } := by
  refine ⟨h5, tk5, (r5, listOf w5.toArray n5) :: (Eg ++ base), rfl, F, fun p hp => N p ?_, ⟨⟨?_, ?_, ?_⟩, off⟩, hS [_], (r5, listOf w5.toArray n5) :: Eg, rfl, ?_, ?_⟩
  · simp only [List.mem_cons] at hp ⊢
    rcases hp with h | h | h | h | h
    · exact .inr (.inl h)
    · exact .inr (.inr (.inl h))
    · exact .inr (.inr (.inr (.inl h)))
    · exact .inl h
    · exact .inr (.inr (.inr (.inr h)))
  · exact Ne.symm (c5 _ (.head _))
  · exact Ne.symm (c5 _ (.tail _ (.head _)))
  · exact Ne.symm (c5 _ (.tail _ (.tail _ (.head _))))
  · intro p hp q hq
    rcases List.mem_cons.mp hp with e | hp
    · rw [e]; exact c5 q (.tail _ (.tail _ (.tail _ (List.mem_append_right _ hq))))
    · exact hE p hp q hq
  · rw [take_snoc hb]
    exact NumsIn.snoc (.head _) hi5 (hys.mono fun p hp => .tail _ hp)
theorem eqAt_self {A : Around} {s : Shared} {b : Bool} : PySem.SeqAt.EqAt A s (.bool b) (.bool b) true := by
  intro prog w E Q hq
  unfold eqBool
  first
    | (refine wpAny_holding ?_; refine wpAny_ite_split (fun _ => wpAny_bind (wpAny_rule (wpAny_pure hq))) (fun hne => absurd (by simp) hne))
    | (refine wpAny_ite_split (fun _ => wpAny_bind (wpAny_rule (wpAny_pure hq))) (fun hne => absurd (by simp) hne))
/-- two lists of one truth value -/
theorem ne_bools {prog : Program} {w : World} {A : Around} {E Q : Value → Shared → Prop} {s : Shared} {a b : Addr} {c : Bool} {xs ys : Array Value} (ha : s.heap.IsList a xs) (hb : s.heap.IsList b ys) (hx : ∀ v ∈ xs, v = .bool c) (hy : ∀ v ∈ ys, v = .bool c) (hz : xs.size = ys.size) (hu : A.units + 100 < cLine) (h : Q (.bool false) s) : wpAny (model prog w) A (compareOp .NotEq (.ref a) (.ref b)) Q E s := by
  have r := PySem.SeqAt.RcNeAt.lists (A := A) ha hb (e := fun _ => true) hz (by omega) (fun j h1 h2 => by
    rw [hx _ (Array.getElem_mem h1), hy _ (Array.getElem_mem h2)]
    exact eqAt_self)
  have e : ((List.range xs.size).all fun _ => true) = true := by simp
  rw [e] at r
  exact r prog w E Q h
theorem eq_bools {prog : Program} {w : World} {A : Around} {E Q : Value → Shared → Prop} {s : Shared} {a b : Addr} {c : Bool} {xs ys : Array Value} (ha : s.heap.IsList a xs) (hb : s.heap.IsList b ys) (hx : ∀ v ∈ xs, v = .bool c) (hy : ∀ v ∈ ys, v = .bool c) (hz : xs.size = ys.size) (hu : A.units + 100 < cLine) (h : Q (.bool true) s) : wpAny (model prog w) A (compareOp .Eq (.ref a) (.ref b)) Q E s := by
  have r := PySem.SeqAt.RcAt.lists (A := A) ha hb (e := fun _ => true) hz (by omega) (fun j h1 h2 => by
    rw [hx _ (Array.getElem_mem h1), hy _ (Array.getElem_mem h2)]
    exact eqAt_self)
  have e : ((List.range xs.size).all fun _ => true) = true := by simp
  rw [e] at r
  exact r prog w E Q h
theorem newsNe {h₀ h : Heap} {L : Addr} {news : List (Addr × Obj)} {p q : Addr × Obj} (N : News h₀ L h news) (hp : p ∈ news) (hq : q ∈ news) (hc : p.2.cls ≠ q.2.cls) : p.1 ≠ q.1 := fun e => by
  have h1 := (N p hp).1
  have h2 := (N q hq).1
  rw [e, h2] at h1
  exact hc (by rw [Option.some.inj h1])
theorem add_listsE {prog : Program} {w : World} {A : Around} {E Q : Value → Shared → Prop} {s : Shared} {h₀ : Heap} {L : Addr} {m : Str → Option Value} {news : List (Addr × Obj)} {l b : Addr} {vs ws : List Value} (F : Fr h₀ L s.heap m) (N : News h₀ L s.heap news) (hl : s.heap.IsList l vs.toArray) (hb : s.heap.IsList b ws.toArray)
    (h : ∀ r h', Fr h₀ L h' m → News h₀ L h' ((r, listOf (vs ++ ws).toArray 0) :: news) → Q (.ref r) { s with heap := h' }) (hz : vs.length + ws.length ≤ 1000) :
    wpAny (model prog w) A (binaryOp .Add (.ref l) (.ref b)) Q E s :=
  PyProof.Rows.add_lists (hsz := by rw [sizeLine_eq]; omega) F N hl hb fun h' F' N' => h _ h' F' N'

section
variable {w : World} {mean : ExcName → Option Value} {mg mb : Str → Option Value} {h₀ : Heap} {L : Addr} {m : Str → Option Value} {news : List (Addr × Obj)} {s : Shared} {Q E : Value → Shared → Prop} {A : Around} {env : Env} {l1 l2 : Addr} {vs1 vs2 : List Value} {n1 n2 : Nat} {ds1 ds2 : List D}
/-- the comparison, called by the law -/
theorem cmp_law (X : (hd.heap_39 w.params).In h₀) (T : Tp mean mg mb h₀) (F : Fr h₀ L s.heap m) (N : News h₀ L s.heap news) (hA : A.handled = none) (hf : A.frames = some [env]) (hd' : A.depth ≤ 800) (hu : A.units ≤ 8000) (he : env.frame = some L) (hk : env.scope.kind ≠ .module)
    (m1 : (l1, listOf vs1.toArray n1) ∈ news) (m2 : (l2, listOf vs2.toArray n2) ∈ news) (hv1 : ∀ g : Heap, (∀ p ∈ news, g.get? p.1 = some p.2) → AllSees g vs1 ds1) (hv2 : ∀ g : Heap, (∀ p ∈ news, g.get? p.1 = some p.2) → AllSees g vs2 ds2) (hz1 : ds1.length ≤ 100) (hz2 : ds2.length ≤ 100)
    (h : ∀ h' tk, Fr h₀ L h' m → News h₀ L h' news → Q (.bool (sameSet ds1 ds2)) { s with heap := h', toks := tk }) :
    wpAny (Md w) A (call (.ref 43) [.ref l1, .ref l2]) Q E s := by
  obtain ⟨oL, es, ep, hL, hLd, gB, gN⟩ := lawFr F N
  refine lowerf (l := [env]) (d := 800) (u := 8000) ?_ hA hf hd' hu
  refine cmp_spec (frs := [(L, oL)]) ⟨hk, he, ⟨es, ep, hLd⟩, trivial⟩ (fun p hp => by rw [List.mem_singleton.mp hp]; exact hL) (X.keeps gB) (T.keeps gB) ⟨_, gN _ m1, rfl, n1, rfl⟩ (hv1 _ gN) hz1 ⟨_, gN _ m2, rfl, n2, rfl⟩ (hv2 _ gN) hz2 ?_
  intro h' tk k
  obtain ⟨F', N'⟩ := backL F N hL k
  exact h h' tk F' N'
/-- what the law asks of one list, called by the law -/
theorem holds_law {bs : List (Array UInt8)} (X : (hd.heap_39 w.params).In h₀) (T : Tp mean mg mb h₀) (F : Fr h₀ L s.heap m) (N : News h₀ L s.heap news) (hA : A.handled = none) (hf : A.frames = some [env]) (hd' : A.depth ≤ 850) (hu : A.units ≤ 8500) (he : env.frame = some L) (hk : env.scope.kind ≠ .module)
    (m1 : (l1, listOf vs1.toArray n1) ∈ news) (hv : BytesAre vs1 bs) (h39 : ∀ b ∈ bs, b ∈ rows39) (hz : bs.length ≤ 9) (hne : bs ≠ [])
    (h : ∀ h' tk, Fr h₀ L h' m → News h₀ L h' news → Q (.bool true) { s with heap := h', toks := tk }) :
    wpAny (Md w) A (call (.ref 193) [.ref l1]) Q E s := by
  obtain ⟨oL, es, ep, hL, hLd, gB, gN⟩ := lawFr F N
  refine lowerf (l := [env]) (d := 850) (u := 8500) ?_ hA hf hd' hu
  refine holds_spec (frs := [(L, oL)]) ⟨hk, he, ⟨es, ep, hLd⟩, trivial⟩ (fun p hp => by rw [List.mem_singleton.mp hp]; exact hL) (X.keeps gB) (T.keeps gB) ⟨_, gN _ m1, rfl, n1, rfl⟩ (hv _) h39 hz hne ?_
  intro h' tk k
  obtain ⟨F', N'⟩ := backL F N hL k
  exact h h' tk F' N'
end

theorem law_post (ns : List Int) : PySem.Challenge.rw_oy0079_01.row.claim.post [ofPy (PyData.list (List.map PyData.int ns))] (WData.bool true) [ofPy (PyData.list (List.map PyData.int ns))] = true := by
  first | wrow_post | kc_post
section
local macro_rules | `(tactic| walk_at "compareOp NotEq ref ref") => `(tactic| refine halt_of ?_)
local macro_rules | `(tactic| walk_at "compareOp Eq ref ref") => `(tactic| refine halt_of ?_)
local macro_rules | `(tactic| walk_at "call builtin:sorted") => `(tactic| refine halt_of ?_)
local macro_rules | `(tactic| walk_at "call builtin:list.append") => `(tactic| refine halt_of ?_)
local macro_rules | `(tactic| walk_at "binaryOp Add ref ref") => `(tactic| refine halt_of ?_)
local macro_rules | `(tactic| walk_at "call type:list") => `(tactic| refine halt_of ?_)
theorem law_t : PySem.Challenge.rw_oy0079_01.Holds := by
  w_on
  exact hd (by
    k_go0
    rename Frag.In _ _ => X
    rename Top _ _ _ _ _ _ => T
    rename Heap.IsList _ _ _ => hl
    rename IntsAre _ _ => hi
    rename Fr _ _ _ _ => F
    rename News _ _ _ _ => N
    rename World => w
    rename List Int => ns
    try dsimp only
    refine absQ fun st tk0 P hP => absF ?_
    walk_at "m steps"
    rename IntsAre _ (List.take 6 _) => hi6
    rename Fr _ _ _ _ => F0
    rename News _ _ _ _ => N0
    have hl6 := hi6.length
    refine Halt.on (PyProof.Rows.add_lists_ints F0 N0 (vs := [_, _, _]) (ns := [9, 11, 2]) ⟨_, N0.get (.tail _ (.head _)), rfl, _, rfl⟩ ⟨_, N0.get (.head _), rfl, _, rfl⟩ (.cons _ _ (.cons _ _ (.cons _ _ .nil))) hi6 ?_ (by rw [sizeLine_eq, List.length_take]; simp only [List.length_cons, List.length_nil]; omega))
    intro h1 F1 N1 hi2
    clear F0 N0
    walk_at "m steps"
    refine Halt.on (absQ fun st9 tk9 P9 hP9 => ?_)
    refine lower (lists_spec (X.keeps F1.keep) (T.keeps F1.keep) ⟨_, N1.get (.head _), rfl, _, rfl⟩ hi2 (by rw [List.length_append, List.length_take]; simp only [List.length_cons, List.length_nil]; omega) ?_) rfl (Nat.le_of_ble_eq_true rfl) (Nat.le_of_ble_eq_true rfl)
    intro h2 tk2 rp r1 r2 w1 w2 n1 n2 k2 hrp hr1 hr2 ne12 ner1 ner2 hop ho1 ho2 g1 g2
    obtain ⟨F2, N2⟩ := addNew F1 N1 k2 hr1 ho1
    replace N2 := addOne F1 F2 N2 hr2 ho2
    replace N2 := addOne F1 F2 N2 hrp hop
    obtain ⟨b1, hb1⟩ : ∃ b, b = firsts ([9, 11, 2] ++ List.take 6 ns) := ⟨_, rfl⟩
    obtain ⟨b2, hb2⟩ : ∃ b, b = seconds ([9, 11, 2] ++ List.take 6 ns) := ⟨_, rfl⟩
    rw [← hb1] at g1
    rw [← hb2] at g2
    have h391 : ∀ b ∈ b1, b ∈ rows39 := hb1 ▸ firsts39 _
    have h392 : ∀ b ∈ b2, b ∈ rows39 := hb2 ▸ seconds39 _
    have hne1 : b1 ≠ [] := hb1 ▸ firsts_ne _
    have hne2 : b2 ≠ [] := hb2 ▸ seconds_ne _
    have hz1 : b1.length ≤ 9 := by
      have := firsts_len ([9, 11, 2] ++ List.take 6 ns)
      rw [← hb1] at this
      refine Nat.le_trans this ?_
      rw [List.length_append, List.length_take]; simp only [List.length_cons, List.length_nil]; omega
    have hz2 : b2.length ≤ 9 := by
      have := seconds_len ([9, 11, 2] ++ List.take 6 ns)
      rw [← hb2] at this
      refine Nat.le_trans this ?_
      rw [List.length_append, List.length_take]; simp only [List.length_cons, List.length_nil]; omega
    have N3 : News _ _ h2 [(rp, { cls := .type "tuple", data := .seq #[.ref r1, .ref r2] }), (r2, listOf w2.toArray n2), (r1, listOf w1.toArray n1)] := fun p hp => N2 p (by
      simp only [List.mem_cons, List.not_mem_nil, or_false] at hp ⊢
      rcases hp with h | h | h
      · exact .inl h
      · exact .inr (.inl h)
      · exact .inr (.inr (.inl h)))
    clear F1 N1 N2 k2 hb1 hb2 hrp hr1 hr2 hop ho1 ho2 hi2
    refine hP9 _ _ _ ?_
    walk_at "m steps"
    rename Fr _ _ _ _ => F4
    rename News _ _ _ _ => N4
    replace N4 : News _ _ _ [(r1, listOf w1.toArray n1), (r2, listOf w2.toArray n2)] := fun p hp => N4 p (by
      simp only [List.mem_cons, List.not_mem_nil, or_false] at hp ⊢
      rcases hp with h | h
      · exact .inr (.inr h)
      · exact .inr (.inl h))
    have hl1 := g1.len
    have hl2 := g2.len
    refine Halt.on (absQ fun st9 tk9 P9 hP9 => ?_)
    refine lower (once_spec (X.keeps F4.keep) (T.keeps F4.keep) ⟨_, N4.get (.head _), rfl, _, rfl⟩ (g1 _) (by rw [List.length_map]; omega) ?_) rfl (Nat.le_of_ble_eq_true rfl) (Nat.le_of_ble_eq_true rfl)
    intro h5 tk5 ra wa na k5 hra hoa sa
    obtain ⟨F5, N5⟩ := addNew F4 N4 k5 hra hoa
    have sa' := sa _ (g1 h5)
    rw [once_eq, onceG_map D.b b1 (fun _ _ _ _ q => D.b.inj q)] at sa'
    clear F4 N4 k5 hra hoa sa
    refine hP9 _ _ _ ?_
    walk_at "m steps"
    have hq1 := onceG_len b1
    have hq2 := onceG_len b2
    refine Halt.on (sorted_octs F5 N5 ⟨_, N5.get (.head _), rfl, _, rfl⟩ (OctsAre.of sa') (by omega) ?_)
    intro h6 rs1 v1 c1 e6 F6 N6 lt6 o1 hp1 hs1
    replace N6 : News _ _ _ [(rs1, listOf v1.toArray e6), (r1, listOf w1.toArray n1), (r2, listOf w2.toArray n2)] := fun p hp => N6 p (by
      simp only [List.mem_cons, List.not_mem_nil, or_false] at hp ⊢
      rcases hp with h | h | h
      · exact .inl h
      · exact .inr (.inr (.inl h))
      · exact .inr (.inr (.inr h)))
    clear F5 N5 sa' lt6
    walk_at "m steps"
    refine Halt.on (absQ fun st9 tk9 P9 hP9 => ?_)
    refine lower (once_spec (X.keeps F6.keep) (T.keeps F6.keep) ⟨_, N6.get (.tail _ (.tail _ (.head _))), rfl, _, rfl⟩ (g2 _) (by rw [List.length_map]; omega) ?_) rfl (Nat.le_of_ble_eq_true rfl) (Nat.le_of_ble_eq_true rfl)
    intro h7 tk7 rb wb nb k7 hrb hob sb
    obtain ⟨F7, N7⟩ := addNew F6 N6 k7 hrb hob
    have sb' := sb _ (g2 h7)
    rw [once_eq, onceG_map D.b b2 (fun _ _ _ _ q => D.b.inj q)] at sb'
    clear F6 N6 k7 hrb hob sb
    refine hP9 _ _ _ ?_
    walk_at "m steps"
    refine Halt.on (sorted_octs F7 N7 ⟨_, N7.get (.head _), rfl, _, rfl⟩ (OctsAre.of sb') (by omega) ?_)
    intro h8 rs2 v2 c2 e8 F8 N8 lt8 o2 hp2 hs2
    clear F7 N7 sb' lt8
    walk_at "m steps"
    refine Halt.on (eq_sees ⟨_, N8.get (.tail _ (.tail _ (.head _))), rfl, _, rfl⟩ ⟨_, N8.get (.head _), rfl, _, rfl⟩ o1.sees o2.sees (Nat.le_of_ble_eq_true rfl) ?_)
    have hsm := same_sorted hp1 hp2 hs1 hs2
    generalize decide (List.map D.b c1 = List.map D.b c2) = sm at hsm ⊢
    replace N8 : News _ _ _ [(r1, listOf w1.toArray n1), (r2, listOf w2.toArray n2)] := fun p hp => N8 p (by
      simp only [List.mem_cons, List.not_mem_nil, or_false] at hp ⊢
      rcases hp with h | h
      · exact .inr (.inr (.inr (.inl h)))
      · exact .inr (.inr (.inr (.inr h))))
    clear hp1 hp2 hs1 hs2 o1 o2
    walk_at "m steps"
    rename Fr _ _ _ _ => F9
    rename News _ _ _ _ => N9
    refine Halt.on (cmp_law X T F9 N9 rfl rfl (Nat.le_of_ble_eq_true rfl) (Nat.le_of_ble_eq_true rfl) rfl (fun q => nomatch q) (.head _) (.tail _ (.head _)) (fun g _ => g1 g) (fun g _ => g2 g) (by rw [List.length_map]; omega) (by rw [List.length_map]; omega) ?_)
    intro h10 tk10 F10 N10
    rw [same_bool (same_b b1 b2) hsm]
    clear F9 N9
    walk_at "m steps"
    refine Halt.on (absQ fun st9 tk9 P9 hP9 => ?_)
    refine lower (texts_spec (X.keeps F10.keep) (T.keeps F10.keep) ⟨_, N10.get (.head _), rfl, _, rfl⟩ (g1 _) (by omega) h391 ?_) rfl (Nat.le_of_ble_eq_true rfl) (Nat.le_of_ble_eq_true rfl)
    intro h11 tk11 rt1 wt1 nt1 k11 hrt1 hot1 st1
    obtain ⟨F11, N11⟩ := addNew F10 N10 k11 hrt1 hot1
    clear F10 N10 k11 hrt1 hot1
    refine hP9 _ _ _ ?_
    walk_at "m steps"
    refine Halt.on (absQ fun st9 tk9 P9 hP9 => ?_)
    refine lower (texts_spec (X.keeps F11.keep) (T.keeps F11.keep) ⟨_, N11.get (.tail _ (.tail _ (.head _))), rfl, _, rfl⟩ (g2 _) (by omega) h392 ?_) rfl (Nat.le_of_ble_eq_true rfl) (Nat.le_of_ble_eq_true rfl)
    intro h12 tk12 rt2 wt2 nt2 k12 hrt2 hot2 st2
    obtain ⟨F12, N12⟩ := addNew F11 N11 k12 hrt2 hot2
    clear F11 N11 k12 hrt2 hot2
    refine hP9 _ _ _ ?_
    walk_at "m steps"
    refine Halt.on (cmp_law X T F12 N12 rfl rfl (Nat.le_of_ble_eq_true rfl) (Nat.le_of_ble_eq_true rfl) rfl (fun q => nomatch q) (.tail _ (.head _)) (.head _) (fun g _ => strsSees st1) (fun g _ => strsSees st2) (by rw [List.length_map, List.length_map]; omega) (by rw [List.length_map, List.length_map]; omega) ?_)
    intro h13 tk13 F13 N13
    rw [same_bool (same_s h391 h392) hsm]
    replace N13 : News _ _ _ [(r1, listOf w1.toArray n1), (r2, listOf w2.toArray n2)] := fun p hp => N13 p (.tail _ (.tail _ hp))
    clear F12 N12 st1 st2
    walk_at "m steps"
    rename_i told _ ltold _ F14 N14
    replace N14 : News _ _ _ [(told, listOf [Value.bool sm, Value.bool sm].toArray 0), (r1, listOf w1.toArray n1), (r2, listOf w2.toArray n2)] := N14
    refine Halt.on (LCg.CompSrc.ledger rfl F14 N14 (.tail _ (.head _)) (by rw [sizeLine_eq, List.size_toArray]; omega) ?_)
    intro g4
    refine rest_ind (NumsA _ b1) ⟨[], rfl, (fun _ hp => nomatch hp), .nil⟩ ?_ ?_
    · clear F14 N14
      intro i us nw v I oI C oC D m₂ h4 tk4 E' hi hJ hPv hC hx F4 N4 off ne
      refine absQ fun st tk4 Q9 hQ9 => ?_
      obtain ⟨Ea, rfl, hEa, hus⟩ := hJ
      have hP := hPv
      obtain ⟨b, tb, hb1, rfl⟩ := AllSees.byt (g1 h4) hP
      have hb3 := row_size b (h391 b (List.mem_of_getElem? hb1))
      walk_at "m steps"
      refine lb_call rfl (by omega) ?_
      intro h5 tk5 r5 w5 n5 k5 hr5 ho5 hi5
      obtain ⟨F5, N5⟩ := addNew F4 N4 k5 hr5 ho5
      have c5 := newsLt N4 hr5
      clear F4 N4
      exact hQ9 _ _ _ (nums_turnA F5 N5 c5 off hEa hus hi5 hb1 (fun _ => .inr ⟨_, List.mem_append_right _ (List.mem_append_right _ (.tail _ (.head _))), rfl, _, rfl⟩))
    clear F14 N14
    rintro us1 nw ⟨E1, rfl, hE1, hus1⟩
    intro D1 h15 tk15 F15 N15 o15
    rw [List.take_of_length_le (by rw [List.size_toArray]; omega)] at hus1
    walk_at "m steps"
    refine Halt.on (LCg.CompSrc.ledger rfl F15 N15 (.tail _ (List.mem_append_right _ (.tail _ (.tail _ (.head _))))) (by rw [sizeLine_eq, List.size_toArray]; omega) ?_)
    intro g5
    refine rest_ind (NumsA _ b2) ⟨[], rfl, (fun _ hp => nomatch hp), .nil⟩ ?_ ?_
    · clear F15 N15
      intro i us nw v I oI C oC D m₂ h4 tk4 E' hi hJ hPv hC hx F4 N4 off ne
      refine absQ fun st tk4 Q9 hQ9 => ?_
      obtain ⟨Ea, rfl, hEa, hus⟩ := hJ
      have hP := hPv
      obtain ⟨b, tb, hb1, rfl⟩ := AllSees.byt (g2 h4) hP
      have hb3 := row_size b (h392 b (List.mem_of_getElem? hb1))
      walk_at "m steps"
      refine lb_call rfl (by omega) ?_
      intro h5 tk5 r5 w5 n5 k5 hr5 ho5 hi5
      obtain ⟨F5, N5⟩ := addNew F4 N4 k5 hr5 ho5
      have c5 := newsLt N4 hr5
      clear F4 N4
      exact hQ9 _ _ _ (nums_turnA F5 N5 c5 off hEa hus hi5 hb1 (fun _ => .inr ⟨_, List.mem_append_right _ (List.mem_append_right _ (.tail _ (List.mem_append_right _ (.tail _ (.tail _ (.head _)))))), rfl, _, rfl⟩))
    clear F15 N15
    rintro us2 nw ⟨E2, rfl, hE2, hus2⟩
    intro D2 h16 tk16 F16 N16 o16
    rw [List.take_of_length_le (by rw [List.size_toArray]; omega)] at hus2
    have hown : ∀ p ∈ [(D2, listOf us2.toArray us2.length), (D1, listOf us1.toArray us1.length), (r1, listOf w1.toArray n1), (r2, listOf w2.toArray n2)] ++ (E1 ++ E2), p.1 ≠ told := fun p hp => by
      rcases List.mem_append.mp hp with hp | hp
      · rcases List.mem_cons.mp hp with e | hp
        · rw [e]; exact Ne.symm (off1_mem _ o16 _ (List.mem_append_right _ (.tail _ (List.mem_append_right _ (.head _)))))
        · rcases List.mem_cons.mp hp with e | hp
          · rw [e]; exact Ne.symm (off1_mem _ o15 _ (List.mem_append_right _ (.head _)))
          · rcases List.mem_cons.mp hp with e | hp
            · rw [e]; exact Nat.ne_of_lt ltold.1
            · rw [List.mem_singleton.mp hp]; exact Nat.ne_of_lt ltold.2
      · rcases List.mem_append.mp hp with hp | hp
        · exact Ne.symm (hE1 p hp _ (.head _))
        · exact Ne.symm (hE2 p hp _ (.tail _ (List.mem_append_right _ (.head _))))
    replace N16 : News _ _ _ ([(told, listOf [Value.bool sm, Value.bool sm].toArray 0), (D2, listOf us2.toArray us2.length), (D1, listOf us1.toArray us1.length), (r1, listOf w1.toArray n1), (r2, listOf w2.toArray n2)] ++ (E1 ++ E2)) := fun p hp => N16 p (by
      simp only [List.mem_cons, List.mem_append, List.not_mem_nil, or_false] at hp ⊢
      rcases hp with (h | h | h | h | h) | h | h <;> simp [h])
    clear o15 o16 hE1 hE2
    walk_at "m steps"
    rename_i tp _ lttp _ F17 N17
    have hl3 := hus1.len
    have hl4 := hus2.len
    refine Halt.on (cmp_law X T F17 N17 rfl rfl (Nat.le_of_ble_eq_true rfl) (Nat.le_of_ble_eq_true rfl) rfl (fun q => nomatch q) (.tail _ (.tail _ (.tail _ (.head _)))) (.tail _ (.tail _ (.head _))) (fun g hg => hus1.sees' (fun p hp => hg p (.tail _ (List.mem_append_right _ (List.mem_append_left _ hp))))) (fun g hg => hus2.sees' (fun p hp => hg p (.tail _ (List.mem_append_right _ (List.mem_append_right _ hp))))) (by rw [List.length_map]; omega) (by rw [List.length_map]; omega) ?_)
    intro h18 tk18 F18 N18
    rw [same_bool (same_n b1 b2) hsm]
    clear F17 N17
    walk_at "m steps"
    replace N18 : News _ _ _ ((told, listOf [Value.bool sm, Value.bool sm].toArray 0) :: (tp, { cls := .type "tuple", data := .seq #[Value.ref D1, Value.ref D2] }) :: ([(D2, listOf us2.toArray us2.length), (D1, listOf us1.toArray us1.length), (r1, listOf w1.toArray n1), (r2, listOf w2.toArray n2)] ++ (E1 ++ E2))) := fun p hp => N18 p (by
      rcases List.mem_cons.mp hp with e | hp
      · rw [e]; exact .tail _ (.head _)
      · rcases List.mem_cons.mp hp with e | hp
        · rw [e]; exact .head _
        · exact .tail _ (.tail _ hp))
    refine Halt.on (app_first F18 N18 (fun p hp => by
      rcases List.mem_cons.mp hp with e | hp
      · rw [e]; exact Nat.ne_of_gt (lttp _ (.head _))
      · exact hown p hp) (by simp) ?_)
    intro h19 F19 N19
    clear F18 N18 hown
    walk_at "m steps"
    refine Halt.on (absQ fun st9 tk9 P9 hP9 => ?_)
    refine lower (texts_spec (X.keeps F19.keep) (T.keeps F19.keep) ⟨_, N19.get (.tail _ (.tail _ (.tail _ (.tail _ (.head _))))), rfl, _, rfl⟩ (g1 _) (by omega) h391 ?_) rfl (Nat.le_of_ble_eq_true rfl) (Nat.le_of_ble_eq_true rfl)
    intro h20 tk20 rt3 wt3 nt3 k20 hrt3 hot3 st3
    obtain ⟨F20, N20⟩ := addNew F19 N19 k20 hrt3 hot3
    clear F19 N19 k20 hrt3 hot3
    refine hP9 _ _ _ ?_
    walk_at "m steps"
    have hl5 := strsLen st3
    rw [List.length_map] at hl5
    refine Halt.on (add_listsE F20 N20 ⟨_, N20.get (.tail _ (.tail _ (.tail _ (.tail _ (.tail _ (.head _)))))), rfl, _, rfl⟩ ⟨_, N20.get (.head _), rfl, _, rfl⟩ ?_ (by omega))
    intro a1 h21 F21 N21
    clear F20 N20
    walk_at "m steps"
    refine Halt.on (add_listsE F21 N21 ⟨_, N21.get (.head _), rfl, _, rfl⟩ ⟨_, N21.get (.tail _ (.tail _ (.tail _ (.tail _ (.tail _ (.head _)))))), rfl, _, rfl⟩ ?_ (by rw [List.length_append]; omega))
    intro a2 h22 F22 N22
    replace N22 : News _ _ h22 ((a2, listOf ((w1 ++ wt3) ++ us1).toArray 0) :: (told, listOf ([Value.bool sm, Value.bool sm] ++ [Value.bool sm]).toArray (0 + 1)) :: (tp, { cls := .type "tuple", data := .seq #[Value.ref D1, Value.ref D2] }) :: ([(D2, listOf us2.toArray us2.length), (D1, listOf us1.toArray us1.length), (r1, listOf w1.toArray n1), (r2, listOf w2.toArray n2)] ++ (E1 ++ E2))) := fun p hp => N22 p (by
      rcases List.mem_cons.mp hp with e | hp
      · rw [e]; exact .head _
      · exact .tail _ (.tail _ (.tail _ hp)))
    clear F21 N21
    walk_at "m steps"
    refine Halt.on (add_listsE F22 N22 ⟨_, N22.get (.tail _ (.tail _ (.tail _ (.head _)))), rfl, _, rfl⟩ ⟨_, N22.get (.tail _ (.tail _ (.tail _ (.tail _ (.tail _ (.tail _ (.head _))))))), rfl, _, rfl⟩ ?_ (by omega))
    intro a3 h23 F23 N23
    clear F22 N22
    walk_at "m steps"
    refine Halt.on (absQ fun st9 tk9 P9 hP9 => ?_)
    refine lower (texts_spec (X.keeps F23.keep) (T.keeps F23.keep) ⟨_, N23.get (.tail _ (.tail _ (.tail _ (.tail _ (.tail _ (.tail _ (.tail _ (.head _)))))))), rfl, _, rfl⟩ (g2 _) (by omega) h392 ?_) rfl (Nat.le_of_ble_eq_true rfl) (Nat.le_of_ble_eq_true rfl)
    intro h24 tk24 rt4 wt4 nt4 k24 hrt4 hot4 st4
    obtain ⟨F24, N24⟩ := addNew F23 N23 k24 hrt4 hot4
    clear F23 N23 k24 hrt4 hot4
    have hl7 := strsLen st4
    rw [List.length_map] at hl7
    refine hP9 _ _ _ ?_
    walk_at "m steps"
    refine Halt.on (add_listsE F24 N24 ⟨_, N24.get (.tail _ (.head _)), rfl, _, rfl⟩ ⟨_, N24.get (.head _), rfl, _, rfl⟩ ?_ (by rw [List.length_append]; omega))
    intro a4 h25 F25 N25
    clear F24 N24
    walk_at "m steps"
    refine Halt.on (cmp_law X T F25 N25 rfl rfl (Nat.le_of_ble_eq_true rfl) (Nat.le_of_ble_eq_true rfl) rfl (fun q => nomatch q) (.tail _ (.tail _ (.tail _ (.head _)))) (.head _)
      (fun g hg => ((g1 g).append (strsSees st3)).append (hus1.sees' fun p hp => hg p (.tail _ (.tail _ (.tail _ (.tail _ (.tail _ (.tail _ (List.mem_append_right _ (List.mem_append_left _ hp)))))))))) 
      (fun g hg => ((hus2.sees' fun p hp => hg p (.tail _ (.tail _ (.tail _ (.tail _ (.tail _ (.tail _ (List.mem_append_right _ (List.mem_append_right _ hp)))))))))|>.append (g2 g)).append (strsSees st4))
      (by simp only [List.length_append, List.length_map]; omega) (by simp only [List.length_append, List.length_map]; omega) ?_)
    intro h26 tk26 F26 N26
    rw [same_bool same_all hsm]
    replace N26 : News _ _ h26 [(told, listOf ([Value.bool sm, Value.bool sm] ++ [Value.bool sm]).toArray (0 + 1)), (r1, listOf w1.toArray n1), (r2, listOf w2.toArray n2)] := fun p hp => N26 p (by
      rcases List.mem_cons.mp hp with e | hp
      · rw [e]; exact .tail _ (.tail _ (.tail _ (.tail _ (.head _))))
      · rcases List.mem_cons.mp hp with e | hp
        · rw [e]; exact .tail _ (.tail _ (.tail _ (.tail _ (.tail _ (.tail _ (.tail _ (.tail _ (.head _))))))))
        · rw [List.mem_singleton.mp hp]; exact .tail _ (.tail _ (.tail _ (.tail _ (.tail _ (.tail _ (.tail _ (.tail _ (.tail _ (.head _))))))))))
    clear F25 N25 st3 st4 hus1 hus2 lttp hl3 hl4 hl5 hl7
    walk_at "m steps"
    refine Halt.on (app_first F26 N26 (fun p hp => by
      rcases List.mem_cons.mp hp with e | hp
      · rw [e]; exact Nat.ne_of_lt ltold.1
      · rw [List.mem_singleton.mp hp]; exact Nat.ne_of_lt ltold.2) (by simp) ?_)
    intro h27 F27 N27
    clear F26 N26
    walk_at "m steps"
    have hall : ∀ v ∈ ([Value.bool sm, Value.bool sm] ++ [Value.bool sm] ++ [Value.bool sm]), v = .bool sm := fun v hv => by simpa using hv
    generalize hlq : ([Value.bool sm, Value.bool sm] ++ [Value.bool sm] ++ [Value.bool sm]) = qs at hall N27 ⊢
    have hl8 : qs.length = 4 := by rw [← hlq]; rfl
    refine Halt.on (LCg.CompSrc.ledger rfl F27 N27 (.head _) (by rw [sizeLine_eq, List.size_toArray]; omega) ?_)
    intro g6
    refine rest_ind (fun i ys nw => nw = [(told, listOf qs.toArray (0 + 1 + 1)), (r1, listOf w1.toArray n1), (r2, listOf w2.toArray n2)] ∧ ys.length = i ∧ ∀ v ∈ ys, v = .bool true) ⟨rfl, rfl, fun _ hv => nomatch hv⟩ ?_ ?_
    · clear F27 N27
      intro i ys nw v I oI C oC D m₂ h4 tk4 E' hi hJ hPv hC hx F4 N4 off ne
      refine absQ fun st tk4 Q9 hQ9 => ?_
      obtain ⟨rfl, hyl, hys⟩ := hJ
      have hP := hPv
      obtain rfl : v = .bool sm := hall v (List.mem_of_getElem? (by simpa using hP))
      walk_at "m steps"
      refine hQ9 _ _ _ (Halt.on ⟨_, _, _, rfl, F4, N4, off, .inr ⟨_, .head _, rfl, _, rfl⟩, rfl, by simp [hyl], fun v hv => ?_⟩)
      rcases List.mem_append.mp hv with hv | hv
      · exact hys v hv
      · exact List.mem_singleton.mp hv
    clear F27 N27
    rintro ys nw ⟨rfl, hyl, hys⟩
    intro D7 h28 tk28 F28 N28 o28
    walk_at "m steps"
    rename Fr _ _ _ _ => F29
    rename News _ _ _ _ => N29
    refine Halt.on (ne_bools (c := true) ⟨_, N29.get (.tail _ (.tail _ (.head _))), rfl, _, rfl⟩ ⟨_, N29.get (.head _), rfl, _, rfl⟩ (fun v hv => hys v (by simpa using hv)) (fun v hv => by simpa using hv) (by rw [List.size_toArray, hyl, List.size_toArray, hl8]; rfl) (Nat.le_of_ble_eq_true rfl) ?_)
    have N30 : News _ _ _ [(told, listOf qs.toArray (0 + 1 + 1)), (r1, listOf w1.toArray n1), (r2, listOf w2.toArray n2)] := fun p hp => N29 p (.tail _ (.tail _ (.tail _ hp)))
    clear N29 o28 hys hyl
    walk_at "m steps"
    rename Fr _ _ _ _ => F31
    rename News _ _ _ _ => N31
    refine Halt.on (eq_bools (c := sm) ⟨_, N31.get (.tail _ (.head _)), rfl, _, rfl⟩ ⟨_, N31.get (.head _), rfl, _, rfl⟩ (fun v hv => hall v (by simpa using hv)) (fun v hv => by simpa using hv) (by rw [List.size_toArray, hl8]; rfl) (Nat.le_of_ble_eq_true rfl) ?_)
    walk_at "m steps"
    refine Halt.on (holds_law X T F31 N31 rfl rfl (Nat.le_of_ble_eq_true rfl) (Nat.le_of_ble_eq_true rfl) rfl (fun q => nomatch q) (.tail _ (.tail _ (.head _))) g1 h391 hz1 hne1 ?_)
    intro h32 tk32 F32 N32
    clear F31 N31
    walk_at "m steps"
    refine Halt.on (holds_law X T F32 N32 rfl rfl (Nat.le_of_ble_eq_true rfl) (Nat.le_of_ble_eq_true rfl) rfl (fun q => nomatch q) (.tail _ (.tail _ (.tail _ (.head _)))) g2 h392 hz2 hne2 ?_)
    intro h33 tk33 F33 N33
    clear F32 N32
    walk_at "m steps"
    rename Shared.gens _ = #[] => hg
    refine hP _ _ _ ?_
    refine goodW_bool F33 hg (raisesW_false ?_) ?_ rfl
    · wrow_none_raised
    · exact law_post _)
end

end Mine
theorem PySem.Challenge.cw_oy0079_01_holds : PySem.Challenge.rw_oy0079_01.Holds :=
  Mine.law_t
