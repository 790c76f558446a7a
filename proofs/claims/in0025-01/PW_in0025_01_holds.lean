import PyProof.Rows.All
import Wide.All
import OpenK.AllK
import Wide.FinOn
import PyProof.AttrMiss
import PyProof.IsiBase
import PyProof.IsiH_list
import PyProof.ZipIter
import PyProof.TupleOfGen
import PyProof.ExcFactsAll.ValueError
import PyProof.StrLawsTight
import Lean
import PySem.Challenge.RW_in0025_01
set_option Elab.async false
set_option compiler.extract_closed false
set_option rowWalk.seconds 0
section
open PySem PySem.W PyProof.Rows
set_option maxRecDepth 100000
set_option maxHeartbeats 8000000
namespace Mine
theorem fresh0 : True := by
  w_top off
  trivial
def hd.view_39 : Program := view PySem.Challenge.rw_in0025_01.row.toRowW.prog [0, 4, 6, 8, 9, 11, 13, 15, 16, 17, 18, 19, 20, 21, 23, 24, 25, 26, 27, 28, 29]
theorem ws : PySem.Challenge.rw_in0025_01.wellSaid = true := by
  unfold OpenLaw.wellSaid
  repeat' with_reducible refine look_both ?_ ?_
  all_goals (try unfold OpenRow.wellSaid)
  repeat' with_reducible refine look_both ?_ ?_
  all_goals (try unfold OpenRow.partSaid)
  repeat' with_reducible refine look_both ?_ ?_
  all_goals (try unfold looksOpen)
  repeat' with_reducible refine look_both ?_ ?_
  all_goals (try rw [PySem.W.Fast.te17119622794617984870])
  all_goals (try rw [PySem.W.Fast.te8326940854005059898])
  all_goals (try rw [PySem.W.Fast.te8377067652309620493])
  all_goals (try rw [PySem.W.Fast.te11788848310118352699])
  all_goals (try rw [PySem.W.Fast.te12862048085361865435])
  all_goals (try rw [PySem.W.Fast.te17868728402115742887])
  all_goals (try rw [PySem.W.Fast.te18344453789297297638])
  all_goals (try rw [PySem.W.Fast.te5923862056798008813])
  all_goals (try rw [PySem.W.Fast.te16286561074155671207])
  all_goals decide +kernel
local macro_rules | `(tactic| o_law) => `(tactic| refine holds_law ws fun said => ?_)
local macro_rules | `(tactic| o_head $H) => `(tactic| (refine holds_open (q := hd.view_39) (loose := [Str.ofString "_safe_string"]) (Xt := fun s => xlAt hd.view_39 [] s && recOk (RowW.records (OpenRow.toRowW (OpenLaw.row PySem.Challenge.rw_in0025_01))) s) (XP := XL hd.view_39 []) (Yf := Hook.obs $H) (Ya := Hook.val $H) (YP := Hook.says $H) (N := 2532) ?hl (Hook.of $H) (Hook.keeps $H) (fun s e => xl_of s (Bool.and_eq_true_iff.mp e).1) XL.keeps (by rfl) (by rfl) (by rfl) (fun s e => recFacts_of (Bool.and_eq_true_iff.mp e).2) (by rfl) (by first | assumption | decide +kernel) (by decide +kernel) ⟨rfl, rfl, rfl, rfl, rfl, by decide +kernel⟩ ?hw ?hc; (case hl => intro w; unfold openEnds fencedOpening topFrom; rw [PySem.W.Fast.te14364793385576792824, PySem.W.Fast.te4187177175401517315, PySem.W.Fast.te10274390034422433532, PySem.W.Fast.te14289696077712309145, PySem.W.Fast.te14082659384304107361, PySem.W.Fast.te1435165496053646825, PySem.W.Fast.te5923862056798008813]; kernel_rfl)))
open_top hd for PySem.Challenge.rw_in0025_01
end Mine
end
section
open PySem PySem.W PySem.Calls PyProof.Rows
set_option maxRecDepth 100000
set_option maxHeartbeats 8000000
namespace Mine

/-- a call of the def at f upon vs, read-only: it hands back r with R, and all that stood stands -/
def RO (w : World) (n : Nat) (f : Addr) (vs : List Value) (pre : Heap → Prop) (R : Heap → Heap → Value → Prop) : Prop :=
  ∀ (mean : ExcName → Option Value) (mg mb : Str → Option Value) (dp un : Nat) (gd : Option (List Code)) (cn : Str) (cs : Scope) (a : Addr) (ccd : Value) (cl : List (Str × Addr)) (outer : List Env) (A₀ : Around) (base h₀ : Heap) (L : Addr) (m : Str → Option Value) (s : Shared) (Q E : Value → Shared → Prop),
    Below A₀ base outer h₀ → Fr h₀ L s.heap m → (hd.heap_1 w.params).In h₀ → Top hd.view_39 (looseW hd.view_39 [Str.ofString "_safe_string"]) mean mg mb h₀ → cs.kind = .function → dp + n < recursionLimit → un + 8 * n < cLine → pre s.heap →
    (∀ r h' tk', Fr h₀ L h' m → (∀ b o, s.heap.get? b = some o → h'.get? b = some o) → R s.heap h' r → Q r { s with heap := h', toks := tk' }) →
    wpAny (model PySem.Challenge.rw_in0025_01.row.prog w) (ktrTop dp un gd cn cs L a ccd cl outer) (call (.ref f) vs) Q E s

def IsT (x : Str) : Heap → Heap → Value → Prop := fun _ _ r => ∃ t, r = .str x t
def IsB (x : Bool) : Heap → Heap → Value → Prop := fun _ _ r => r = .bool x
def IsI (x : Int) : Heap → Heap → Value → Prop := fun _ _ r => ∃ t, r = .int x t
def IsL (ss : List Str) : Heap → Heap → Value → Prop := fun h h' r => ∃ D vs n, r = .ref D ∧ h.get? D = none ∧ h'.get? D = some (listOf (List.toArray vs) n) ∧ StrsAre vs ss
def NoPre : Heap → Prop := fun _ => True

section
variable {prog : Program} {w : World} {A₀ A : Around} {s : Shared} {base h₀ : Heap} {outer : List Env} {L : Addr} {m : Str → Option Value} {env : Env} {K : Frag} {p : Program} {loose : List Str} {mean : ExcName → Option Value} {mg mb : Str → Option Value}
  {R : Result → Shared → Prop} {name qual : Str} {params : Arguments} {body : List Stmt} {scope : Scope} {dV kV doc pm cdv ct oc : Value} {an od : Option Addr} {osl : Array (Option Value)} {f : Addr} {args : Args} {binds : List (Str × Value)}

/-- the def is entered with all that stands as the base -/
theorem ro_enter (B : Below A₀ base outer h₀) (F : Fr h₀ L s.heap m) (X₀ : K.In h₀) (T : Top p loose mean mg mb h₀) (hA : A.frames = some (env :: outer)) (hf : env.frame = some L) (hke : env.scope.kind = .function)
    (ho : K.lookup f = some ⟨oc, od, .func (fnOf name qual params body scope dV kV doc pm an cdv ct), osl⟩) (hcd : codeIn K cdv qual = true) (hroom : A.depth < recursionLimit)
    (hbind : BindsTo s (fnOf name qual params body scope dV kV doc pm an cdv ct) args binds) (hloc : ∀ y ∈ binds, scope.names.lookup y.1 = some .local)
    (h : ∀ L' h₁, Fr s.heap L' h₁ (fun y => binds.reverse.lookup y) → News s.heap L' h₁ [] → Below A base (env :: outer) s.heap → K.In s.heap → Top p loose mean mg mb s.heap →
      wpAny (model prog w) (A.deeper (envOf qual scope L' f cdv)) (execs body (envOf qual scope L' f cdv))
        (fun fl s' => LeaveK h₀ L m s.heap R (match fl with | .ret v => v | _ => .none) s')
        (fun e s' => wpAny (model prog w) (A.deeper (envOf qual scope L' f cdv)) (leaving (envOf qual scope L' f cdv) e) (fun _ s'' => R (.error e) s'') (fun e' s'' => R (.error e') s'') s')
        { s with heap := h₁, toks := s.toks + binds.length })
    (hco : scope.isCoroutine = false) (hgen : scope.isGenerator = false) (hk : scope.kind = .function)
    (hcell : ∀ x ∈ scope.names, x.2 ≠ .cell) : codeAny (model prog w) A (.call (.ref f) args) R s := by
  obtain ⟨FG, BG, st, lv⟩ := groundX (R := R) B F (News.nil (h₀ := h₀) (h := s.heap) (L := L)) hA hf hke
  refine codeAny_call_def (fd := fnOf name qual params body scope dV kV doc pm an cdv ct) (body := body) (binds := binds) hroom ((X₀.keeps F.keep) _ _ ho) rfl (T.nolimit.keeps F.keep) (codeRec_of (X₀.keeps F.keep) hcd) rfl hbind hcell hloc (fun h₁ hns hk₁ => ?_) hco hgen hk
  exact wpAny_mono (h s.heap.objs.size h₁ ⟨hns, fun b o e => hk₁ b o e, Nat.le_refl _⟩ News.nil BG (X₀.keeps F.keep) (T.keeps F.keep)) (fun fl s' hl => lv _ _ hl) fun _ _ y => y
end
end Mine
end
section
open PySem PySem.W PySem.Calls PyProof.Rows
set_option maxRecDepth 100000
set_option maxHeartbeats 8000000
namespace Mine
section
variable {w : World} {nn : Nat} {f : Addr} {vs : List Value} {pre : Heap → Prop} {R : Heap → Heap → Value → Prop} {mean : ExcName → Option Value} {mg mb : Str → Option Value} {dp un : Nat} {gd : Option (List Code)} {cn : Str} {cs : Scope} {a : Addr} {ccd : Value} {cl : List (Str × Addr)} {outer : List Env} {A₀ : Around} {base h₀ : Heap} {L : Addr} {m : Str → Option Value} {s : Shared} {Q E : Value → Shared → Prop} {news : List (Addr × Obj)}

theorem news_stay {h h' : Heap} (N : News h₀ L h news) (k : ∀ b o, h.get? b = some o → h'.get? b = some o) : News h₀ L h' news :=
  fun p hp => ⟨k _ _ (N p hp).1, (N p hp).2⟩
theorem news_more {h h' : Heap} {D : Addr} {o : Obj} (F : Fr h₀ L h m) (N : News h₀ L h news) (k : ∀ b o, h.get? b = some o → h'.get? b = some o) (hD : h.get? D = none) (ho : h'.get? D = some o) :
    News h₀ L h' ((D, o) :: news) ∧ ∀ p ∈ news, p.1 ≠ D := by
  refine ⟨fun p hp => ?_, fun p hp e => ?_⟩
  · rcases List.mem_cons.mp hp with rfl | hp
    · refine ⟨ho, fun e => ?_, ?_⟩
      · obtain ⟨oL, _, _, hL, _⟩ := F.ns
        rw [← e] at hL; rw [show h.get? _ = none from hD] at hL; cases hL
      · cases q : h₀.get? D with
        | none => rfl
        | some o' => rw [F.keep _ _ q] at hD; cases hD
    · exact news_stay N k p hp
  · have := (N p hp).1
    rw [e, hD] at this; cases this

theorem ro_use (C : RO w nn f vs pre R) (B : Below A₀ base outer h₀) (F : Fr h₀ L s.heap m) (X : (hd.heap_1 w.params).In h₀) (N : News h₀ L s.heap news) (T : Top hd.view_39 (looseW hd.view_39 [Str.ofString "_safe_string"]) mean mg mb h₀) (hk : cs.kind = .function)
    (hd : dp + nn < recursionLimit) (hu : un + 8 * nn < cLine) (hp : pre s.heap)
    (ret : ∀ r h' tk', Fr h₀ L h' m → News h₀ L h' news → (∀ b o, s.heap.get? b = some o → h'.get? b = some o) → R s.heap h' r → Q r { s with heap := h', toks := tk' }) :
    wpAny (model PySem.Challenge.rw_in0025_01.row.prog w) (ktrTop dp un gd cn cs L a ccd cl outer) (call (.ref f) vs) Q E s :=
  C _ _ _ _ _ _ _ _ _ _ _ _ _ _ _ _ _ _ _ _ B F X T hk hd hu hp fun r h' tk' F' k hR => ret r h' tk' F' (news_stay N k) k hR

theorem ro_useT {x : Str} (C : RO w nn f vs pre (IsT x)) (B : Below A₀ base outer h₀) (F : Fr h₀ L s.heap m) (X : (hd.heap_1 w.params).In h₀) (N : News h₀ L s.heap news) (T : Top hd.view_39 (looseW hd.view_39 [Str.ofString "_safe_string"]) mean mg mb h₀) (hk : cs.kind = .function)
    (hd : dp + nn < recursionLimit) (hu : un + 8 * nn < cLine) (hp : pre s.heap)
    (ret : ∀ t h' tk', Fr h₀ L h' m → News h₀ L h' news → Q (.str x t) { s with heap := h', toks := tk' }) :
    wpAny (model PySem.Challenge.rw_in0025_01.row.prog w) (ktrTop dp un gd cn cs L a ccd cl outer) (call (.ref f) vs) Q E s :=
  ro_use C B F X N T hk hd hu hp fun r h' tk' F' N' _ hR => by obtain ⟨t, rfl⟩ := hR; exact ret t h' tk' F' N'
theorem ro_useI {x : Int} (C : RO w nn f vs pre (IsI x)) (B : Below A₀ base outer h₀) (F : Fr h₀ L s.heap m) (X : (hd.heap_1 w.params).In h₀) (N : News h₀ L s.heap news) (T : Top hd.view_39 (looseW hd.view_39 [Str.ofString "_safe_string"]) mean mg mb h₀) (hk : cs.kind = .function)
    (hd : dp + nn < recursionLimit) (hu : un + 8 * nn < cLine) (hp : pre s.heap)
    (ret : ∀ t h' tk', Fr h₀ L h' m → News h₀ L h' news → Q (.int x t) { s with heap := h', toks := tk' }) :
    wpAny (model PySem.Challenge.rw_in0025_01.row.prog w) (ktrTop dp un gd cn cs L a ccd cl outer) (call (.ref f) vs) Q E s :=
  ro_use C B F X N T hk hd hu hp fun r h' tk' F' N' _ hR => by obtain ⟨t, rfl⟩ := hR; exact ret t h' tk' F' N'
theorem ro_useL {ss : List Str} (C : RO w nn f vs pre (IsL ss)) (B : Below A₀ base outer h₀) (F : Fr h₀ L s.heap m) (X : (hd.heap_1 w.params).In h₀) (N : News h₀ L s.heap news) (T : Top hd.view_39 (looseW hd.view_39 [Str.ofString "_safe_string"]) mean mg mb h₀) (hk : cs.kind = .function)
    (hd : dp + nn < recursionLimit) (hu : un + 8 * nn < cLine) (hp : pre s.heap)
    (ret : ∀ D us n h' tk', Fr h₀ L h' m → News h₀ L h' ((D, listOf (List.toArray us) n) :: news) → (∀ p ∈ news, p.1 ≠ D) → StrsAre us ss → Q (.ref D) { s with heap := h', toks := tk' }) :
    wpAny (model PySem.Challenge.rw_in0025_01.row.prog w) (ktrTop dp un gd cn cs L a ccd cl outer) (call (.ref f) vs) Q E s :=
  C _ _ _ _ _ _ _ _ _ _ _ _ _ _ _ _ _ _ _ _ B F X T hk hd hu hp fun r h' tk' F' k hR => by
    obtain ⟨D, us, n, rfl, h1, h2, h3⟩ := hR
    obtain ⟨N', ne⟩ := news_more F N k h1 h2
    exact ret D us n h' tk' F' N' ne h3

theorem ro_endT {x y : Str} {t : Tok} {h' : Heap} {tk' : Nat} (hret : ∀ r h' tk', Fr h₀ L h' m → (∀ b o, s.heap.get? b = some o → h'.get? b = some o) → IsT x s.heap h' r → Q r { s with heap := h', toks := tk' })
    {L' : Addr} {m' : Str → Option Value} (F : Fr h₀ L h' m) (F' : Fr s.heap L' h' m') (e : y = x) : Q (.str y t) { s with heap := h', toks := tk' } := hret _ _ _ F F'.keep ⟨t, by rw [e]⟩
theorem ro_endI {x y : Int} {t : Tok} {h' : Heap} {tk' : Nat} (hret : ∀ r h' tk', Fr h₀ L h' m → (∀ b o, s.heap.get? b = some o → h'.get? b = some o) → IsI x s.heap h' r → Q r { s with heap := h', toks := tk' })
    {L' : Addr} {m' : Str → Option Value} (F : Fr h₀ L h' m) (F' : Fr s.heap L' h' m') (e : y = x) : Q (.int y t) { s with heap := h', toks := tk' } := hret _ _ _ F F'.keep ⟨t, by rw [e]⟩
theorem ro_endL {ss : List Str} {D : Addr} {us : List Value} {n : Nat} {h' : Heap} {tk' : Nat} (hret : ∀ r h' tk', Fr h₀ L h' m → (∀ b o, s.heap.get? b = some o → h'.get? b = some o) → IsL ss s.heap h' r → Q r { s with heap := h', toks := tk' })
    {L' : Addr} {m' : Str → Option Value} {led : List (Addr × Obj)} (F : Fr h₀ L h' m) (F' : Fr s.heap L' h' m') (N' : News s.heap L' h' led) (hm : (D, listOf (List.toArray us) n) ∈ led) (e : StrsAre us ss) : Q (.ref D) { s with heap := h', toks := tk' } :=
  hret _ _ _ F F'.keep ⟨D, us, n, rfl, (N' _ hm).2.2, (N' _ hm).1, e⟩
theorem ro_endL2 {ss ss' : List Str} {D : Addr} {us : List Value} {n : Nat} {h' : Heap} {tk' : Nat} (hret : ∀ r h' tk', Fr h₀ L h' m → (∀ b o, s.heap.get? b = some o → h'.get? b = some o) → IsL ss s.heap h' r → Q r { s with heap := h', toks := tk' })
    {L' : Addr} {m' : Str → Option Value} {led : List (Addr × Obj)} (F : Fr h₀ L h' m) (F' : Fr s.heap L' h' m') (N' : News s.heap L' h' led) (hm : (D, listOf (List.toArray us) n) ∈ led) (e : StrsAre us ss') (he : ss' = ss) : Q (.ref D) { s with heap := h', toks := tk' } :=
  hret _ _ _ F F'.keep ⟨D, us, n, rfl, (N' _ hm).2.2, (N' _ hm).1, he ▸ e⟩
end
end Mine
end
section
open PySem PySem.W PySem.Calls PyProof.Rows
set_option maxRecDepth 100000
set_option maxHeartbeats 8000000
namespace Mine
section
variable {prog : Program} {w : World} {A : Around} {E : Value → Shared → Prop} {s : Shared}
theorem kind_isn : builtinKind "issubclass.nested" = none := by decide +kernel
theorem plain_isn : plainId "issubclass.nested" = true := by decide +kernel
theorem args_isn (a b c : Value) : argsOk "issubclass.nested" ⟨[a, b, c], []⟩ := by unfold argsOk; rw [PySem.W.Fast.signatureY_eq]; kernel_rfl

/-- issubclass of two built-in classes -/
theorem isn_type {d c : String} {b : Bool} {k : Value} {dep : Int} {tk : Tok} {Q : Fin → Shared → Prop} (hk : k = .int dep tk)
    (md : (Value.type ((Manifest.find? d).elim "type" (·.metatype)) == Value.type "type") = true) (mc : (Value.type ((Manifest.find? c).elim "type" (·.metatype)) == Value.type "type") = true)
    (hself : isSubtype (.type d) (.type c) = pure b) (hq : Q (.done (.ret (.bool b))) s) :
    wpAny (model prog w) A (Builtin.«issubclass.nested» ⟨[.type d, .type c, k], []⟩) Q E s := by
  subst hk
  repeat (any_goals (first | assumption | (rw [if_pos md]) | (rw [if_pos mc]) | (rw [hself]) | wp_step))

def SubAll (d : String) : List Value → List Bool → Prop
  | [], [] => True
  | c :: cs, v :: vs => (∃ n, c = .type n ∧ (Value.type ((Manifest.find? n).elim "type" (·.metatype)) == Value.type "type") = true ∧ isSubtype (.type d) (.type n) = pure v) ∧ SubAll d cs vs
  | _, _ => False

theorem isn_items {d : String} {dep : Int} (md : (Value.type ((Manifest.find? d).elim "type" (·.metatype)) == Value.type "type") = true) (cs : List Value) : ∀ (vs : List Bool) (s : Shared) (Q : Option Fin × Unit → Shared → Prop),
    SubAll d cs vs → (∀ tk, Q (if vs.any id then some (.done (.ret (.bool true))) else none, ()) { s with toks := tk }) →
    wpAny (model prog w) A (forIn cs ((none : Option Fin), ()) fun c _ => do
      if ← truthy (← call (.builtin "issubclass.nested") [.type d, c, rawInt (dep + 1)]) then
        let r ← ret (.bool true)
        pure (ForInStep.done (some r, ()))
      else pure (ForInStep.yield (none, ()))) Q E s := by
  induction cs with
  | nil =>
    intro vs s Q ha h
    cases vs with
    | nil => exact wpAny_pure (h s.toks)
    | cons v vs => simp [SubAll] at ha
  | cons c cs ih =>
    intro vs s Q ha h
    cases vs with
    | nil => simp [SubAll] at ha
    | cons v vs =>
      obtain ⟨⟨n, rfl, mn, hs⟩, hr⟩ := ha
      rw [List.forIn_cons]
      refine wpAny_bind (wpAny_bind (call_function_meets kind_isn plain_isn F.entry_issubclass_nested (args_isn _ _ _) (S := fun _ R s => R (.ok (.ret (.bool v))) s) (fun _ _ _ _ _ hs' => isn_type rfl md mn hs hs') ?_))
      show wpAny _ _ (truthy (.bool v) >>= _) _ _ _
      refine wpAny_bind (m := truthy (.bool v)) (wpAny_pure ?_)
      cases v with
      | true => exact wpAny_bind (wpAny_pure (wpAny_pure (wpAny_pure (h s.toks))))
      | false => exact wpAny_pure (ih vs _ Q hr fun tk => h tk)

theorem isn_tuple {d : String} {tp : Addr} {cs : List Value} {vs : List Bool} {k : Value} {tk : Tok} {s : Shared} {Q : Fin → Shared → Prop} (hk : k = .int 0 tk)
    (md : (Value.type ((Manifest.find? d).elim "type" (·.metatype)) == Value.type "type") = true)
    (htp : s.heap.get? tp = some { cls := .type "tuple", data := .seq cs.toArray }) (ha : SubAll d cs vs)
    (hq : ∀ tk', Q (.done (.ret (.bool (vs.any id)))) { s with toks := tk' }) : wpAny (model prog w) A (Builtin.«issubclass.nested» ⟨[.type d, .ref tp, k], []⟩) Q E s := by
  subst hk
  obtain ⟨h, g, dd, t, os⟩ := s
  have hT2 : (⟨h, g, dd, t, os⟩ : Shared).TypeIs (.ref tp) "tuple" := ⟨_, htp, rfl⟩
  have f1 := F.isi_sub_tuple
  repeat (any_goals (first | assumption | wp_step))
  refine wpAny_arrayLoop ?_
  simp only [Option.getD_some, List.toList_toArray]
  refine isn_items (dep := 0) md cs vs _ _ ha fun tk' => ?_
  cases hv : vs.any id with
  | true =>
    simp only [if_true]
    repeat (any_goals (first | assumption | wp_step))
    exact hv ▸ hq tk'
  | false =>
    simp only [Bool.false_eq_true, if_false]
    repeat (any_goals (first | assumption | wp_step))
    exact hv ▸ hq tk'

theorem call_isn {d : String} {tp : Addr} {cs : List Value} {vs : List Bool} {Q : Value → Shared → Prop}
    (md : (Value.type ((Manifest.find? d).elim "type" (·.metatype)) == Value.type "type") = true)
    (htp : s.heap.get? tp = some { cls := .type "tuple", data := .seq cs.toArray }) (ha : SubAll d cs vs)
    (hq : ∀ tk', Q (.bool (vs.any id)) { s with toks := tk' }) : wpAny (model prog w) A (call (.builtin "issubclass") [.type d, .ref tp]) Q E s :=
  call_issubclass (S := fun _ R s => (s.heap.get? tp = some { cls := .type "tuple", data := .seq cs.toArray }) ∧ ∀ tk', R (.ok (.ret (.bool (vs.any id)))) { s with toks := tk' })
    (fun _ _ _ _ _ hs => issubclass_outer (isn_tuple rfl md hs.1 ha hs.2)) ⟨htp, hq⟩

theorem sub_str : SubAll "str" [.type "str", .type "bytes"] [true, false] :=
  ⟨⟨"str", rfl, by decide +kernel, by rw [isSubtype_type]; kernel_rfl⟩, ⟨"bytes", rfl, by decide +kernel, by rw [isSubtype_type]; kernel_rfl⟩, trivial⟩
theorem sub_list : SubAll "list" [.type "str", .type "bytes"] [false, false] :=
  ⟨⟨"str", rfl, by decide +kernel, by rw [isSubtype_type]; kernel_rfl⟩, ⟨"bytes", rfl, by decide +kernel, by rw [isSubtype_type]; kernel_rfl⟩, trivial⟩
theorem md_str : (Value.type ((Manifest.find? "str").elim "type" (·.metatype)) == Value.type "type") = true := by decide +kernel
theorem md_list : (Value.type ((Manifest.find? "list").elim "type" (·.metatype)) == Value.type "type") = true := by decide +kernel
end
end Mine
end
section
open PySem PySem.W PySem.Calls PyProof.Rows
set_option maxRecDepth 100000
set_option maxHeartbeats 8000000
namespace Mine

/-- the end of a turn: what the next turn begins with -/
def VEnd (h₀ : Heap) (L : Addr) (J : (Str → Option Value) → List (Addr × Obj) → Prop) (own : List (Addr × Obj)) (I : Addr) (s₁ s₂ : Shared) : Prop :=
  ∃ h' tk m' news' nx, s₂ = { s₁ with heap := h', toks := tk } ∧ Fr h₀ L h' m' ∧ News h₀ L h' news' ∧ (∀ p ∈ nx, p ∈ news') ∧ (∀ p ∈ own, p ∈ news') ∧ (∀ p ∈ nx, p.1 ≠ I) ∧ J m' nx
def VPost (h₀ : Heap) (L : Addr) (J : (Str → Option Value) → List (Addr × Obj) → Prop) (own : List (Addr × Obj)) (I : Addr) (s₁ : Shared) (Q : Flow → Shared → Prop) (f : Flow) (s₂ : Shared) : Prop :=
  match f with
  | .ret v => Q (.ret v) s₂
  | .brk => Q .next s₂
  | _ => VEnd h₀ L J own I s₁ s₂
theorem VEnd.intro {h₀ : Heap} {L : Addr} {J : (Str → Option Value) → List (Addr × Obj) → Prop} {m' : Str → Option Value} {own news' : List (Addr × Obj)} {I : Addr} {s₁ : Shared} {h' : Heap} {tk : Nat} (nx : List (Addr × Obj)) (F : Fr h₀ L h' m') (N : News h₀ L h' news')
    (hn : ∀ p ∈ nx, p ∈ news') (ho : ∀ p ∈ own, p ∈ news') (hi : ∀ p ∈ nx, p.1 ≠ I) (hj : J m' nx) : VEnd h₀ L J own I s₁ { s₁ with heap := h', toks := tk } := ⟨h', tk, m', news', nx, rfl, F, N, hn, ho, hi, hj⟩

section
variable {prog : Program} {w : World} {A : Around} {E : Value → Shared → Prop} {s : Shared} {env : Env} {h₀ : Heap} {x : Str} {body : List Stmt} {Q : Flow → Shared → Prop}
/-- a loop over a list of any values, by what holds between its turns -/
theorem iter_vals2 {l : Addr} {vs : List Value} {m₀ : Str → Option Value} {news : List (Addr × Obj)} (J : Nat → (Str → Option Value) → List (Addr × Obj) → Prop)
    (hh : A.handled = none) (hl : s.heap.IsList l vs.toArray) (hL : l ≠ env.locals) (F : Fr h₀ env.locals s.heap m₀) (N : News h₀ env.locals s.heap news) (hj : J 0 m₀ news)
    (turn : ∀ i v m₁ news₁ h tk own I, vs[i]? = some v → (∀ p ∈ news₁, p.1 ≠ I) → (∃ o, (I, o) ∈ own) → (∀ p ∈ own, p.1 = I ∨ p.1 = l) → h.IsList l vs.toArray → J i m₁ news₁ → Fr h₀ env.locals h (fun y => if y = x then some v else m₁ y) → News h₀ env.locals h (news₁ ++ own) →
      wpAny (model prog w) A (execs body env) (VPost h₀ env.locals (J (i + 1)) own I { s with heap := h, toks := tk } Q) E { s with heap := h, toks := tk })
    (done : ∀ m₁ news₁ h tk, J vs.length m₁ news₁ → Fr h₀ env.locals h m₁ → News h₀ env.locals h news₁ → Q .next { s with heap := h, toks := tk }) :
    wpAny (model prog w) A (pyIter (.ref l)) (fun it s₂ => LoopAtV prog w A h₀ env x body Q E it s₂) E s := by
  obtain ⟨ol, hol, _⟩ := id hl
  have hne : l ≠ s.heap.objs.size := Nat.ne_of_lt (Heap.lt_size hol)
  refine wpAny_pyIter_list hl ?_
  have W := Walks.list (prog := prog) (w := w) hh s.heap.objs.size l hne vs.toArray
  have hlen : vs.toArray.size = vs.length := by simp
  rw [hlen] at W
  refine ⟨_, _, _, vs.length, _, _, m₀, news, J, rfl, W, ?_, ?_, ?_, ⟨⟨_, Heap.get?_push_size _ rfl, rfl, rfl⟩, hl.at fun o e => Heap.get?_push_of_some _ e⟩, F.push _, (fun p hp => ⟨Heap.get?_push_of_some _ (N p hp).1, (N p hp).2⟩), hj, ?_, ?_⟩
  · intro hm
    rcases List.mem_cons.mp hm with e | hm
    · exact absurd F.ns.lt (e ▸ Nat.lt_irrefl _)
    · exact hL (List.mem_singleton.mp hm).symm
  · intro b hb
    rw [List.mem_singleton.mp hb]
    exact next_is_new F
  · intro p hp hI
    exact absurd (Heap.lt_size (N p hp).1) ((List.mem_singleton.mp hI) ▸ Nat.lt_irrefl _)
  · rintro i v m₁ news₁ s₁ own ⟨hh', tk', rfl⟩ hin hP hJ hoff hown hget hfp hSt F₁ N₁
    have hP' : vs[i]? = some v := by simpa using hP
    have N₂ : News h₀ env.locals hh' (news₁ ++ own) := fun p hp => N₁ p ((List.mem_append.mp hp).elim (fun h => List.mem_append.mpr (.inr h)) fun h => List.mem_append.mpr (.inl h))
    have hI : ∃ o, (s.heap.objs.size, o) ∈ own := by
      obtain ⟨⟨o, ho, _⟩, _⟩ := hSt
      exact ⟨o, hfp _ (by simp) (next_is_new F) o ho⟩
    refine wpAny_mono (turn i v m₁ news₁ hh' tk' own s.heap.objs.size hP' (fun p hp e => hoff p hp (by simp [e])) hI (fun p hp => (List.mem_cons.mp (hown p hp)).imp id fun q => List.mem_singleton.mp q) hSt.2 hJ F₁ N₂) (fun f s₂ p => ?_) fun _ _ e => e
    have fin : VEnd h₀ env.locals (J (i + 1)) own s.heap.objs.size { s with heap := hh', toks := tk' } s₂ → LoopStepU h₀ env.locals [s.heap.objs.size] own (J (i + 1)) { s with heap := hh', toks := tk' } .next s₂ := by
      rintro ⟨h', tk, m', news', nx, e, F', N', hn, ho, ha, hm⟩
      exact ⟨rfl, h', tk, m', nx, e, F', fun p hp => N' p ((List.mem_append.mp hp).elim (ho p) (hn p)), fun p hp hq => ha p hp (List.mem_singleton.mp hq), hm⟩
    cases f with
    | ret v => exact .ret p
    | brk => exact .brk p
    | next => exact .next (fin p)
    | cont => exact .cont (fin p)
  · rintro h' tk m' news' F' N' _ hJ
    exact done m' news' h' tk hJ F' N'
/-- the same, no word of what the loop itself holds -/
theorem iter_vals {l : Addr} {vs : List Value} {m₀ : Str → Option Value} {news : List (Addr × Obj)} (J : Nat → (Str → Option Value) → List (Addr × Obj) → Prop)
    (hh : A.handled = none) (hl : s.heap.IsList l vs.toArray) (hL : l ≠ env.locals) (F : Fr h₀ env.locals s.heap m₀) (N : News h₀ env.locals s.heap news) (hj : J 0 m₀ news)
    (turn : ∀ i v m₁ news₁ h tk own I, vs[i]? = some v → (∀ p ∈ news₁, p.1 ≠ I) → (∃ o, (I, o) ∈ own) → h.IsList l vs.toArray → J i m₁ news₁ → Fr h₀ env.locals h (fun y => if y = x then some v else m₁ y) → News h₀ env.locals h (news₁ ++ own) →
      wpAny (model prog w) A (execs body env) (VPost h₀ env.locals (J (i + 1)) own I { s with heap := h, toks := tk } Q) E { s with heap := h, toks := tk })
    (done : ∀ m₁ news₁ h tk, J vs.length m₁ news₁ → Fr h₀ env.locals h m₁ → News h₀ env.locals h news₁ → Q .next { s with heap := h, toks := tk }) :
    wpAny (model prog w) A (pyIter (.ref l)) (fun it s₂ => LoopAtV prog w A h₀ env x body Q E it s₂) E s :=
  iter_vals2 J hh hl hL F N hj (fun i v m₁ news₁ h tk own I a b c _ => turn i v m₁ news₁ h tk own I a b c) done
end

theorem strs_get {us : List Value} {ss : List Str} (h : StrsAre us ss) : ∀ {i : Nat} {v : Value}, us[i]? = some v → ∃ y t, v = .str y t ∧ ss[i]? = some y := by
  induction h with
  | nil => intro i v e; simp at e
  | cons y t _ ih =>
    intro i v e
    cases i with
    | zero => simp at e; exact ⟨y, t, e.symm, by simp⟩
    | succ i => simp at e; obtain ⟨y', t', a, b⟩ := ih e; exact ⟨y', t', a, by simpa using b⟩
theorem strs_len {us : List Value} {ss : List Str} (h : StrsAre us ss) : us.length = ss.length := by
  induction h with
  | nil => rfl
  | cons _ _ _ ih => simp [ih]
end Mine
end
section
open PySem PySem.W PySem.Calls PyProof.Rows
set_option maxRecDepth 100000
set_option maxHeartbeats 8000000
namespace Mine
def Stop (P : Prop) : Prop := P
theorem stop_out {P : Prop} (h : Stop P) : P := h
theorem fr_at {h₀ h : Heap} {L : Addr} {m : Str → Option Value} (ps : List (Str × Value)) (F : Fr h₀ L h m) (e : ∀ p ∈ ps, m p.1 = some p.2) : Fr h₀ L h (kstB m ps) := by
  have : kstB m ps = m := by
    funext z
    exact kstB_eq e fun _ => rfl
  rw [this]; exact F
/-- the number of empty pieces ahead, the last piece not counted -/
def rootS : List Str → Nat
  | [] => 0
  | [_] => 0
  | y :: z :: r => if y = Str.ofString "" then rootS (z :: r) + 1 else 0
theorem rootS_step {ss : List Str} {k : Nat} (h1 : k + 1 < ss.length) (h2 : ss[k]? = some (Str.ofString "")) : rootS (ss.drop k) = rootS (ss.drop (k + 1)) + 1 := by
  have e1 : ss.drop k = ss[k] :: ss[k+1] :: ss.drop (k + 2) := by
    rw [List.drop_eq_getElem_cons (by omega), List.drop_eq_getElem_cons (i := k + 1) (by omega)]
  have e2 : ss.drop (k + 1) = ss[k+1] :: ss.drop (k + 2) := List.drop_eq_getElem_cons (by omega)
  have e3 : ss[k] = Str.ofString "" := by
    rw [List.getElem?_eq_getElem (by omega)] at h2
    exact Option.some.inj h2
  rw [e1, e2, e3, rootS, if_pos rfl]
theorem rootS_stop1 {ss : List Str} {k : Nat} (h1 : ¬ k + 1 < ss.length) : rootS (ss.drop k) = 0 := by
  match h : ss.drop k with
  | [] => rfl
  | [_] => rfl
  | _ :: _ :: r =>
    have := congrArg List.length h
    simp at this
    omega
theorem rootS_stop2 {ss : List Str} {k : Nat} {y : Str} (h2 : ss[k]? = some y) (h3 : y ≠ Str.ofString "") : rootS (ss.drop k) = 0 := by
  have hk : k < ss.length := by
    rcases Nat.lt_or_ge k ss.length with h | h
    · exact h
    · rw [List.getElem?_eq_none h] at h2; cases h2
  rw [List.drop_eq_getElem_cons hk]
  rw [List.getElem?_eq_getElem hk] at h2
  have e := Option.some.inj h2
  cases h : ss.drop (k + 1) with
  | nil => rfl
  | cons a r => rw [rootS, if_neg (by rw [e]; exact h3)]
theorem rootS_le : ∀ (ss : List Str), rootS ss ≤ ss.length - 1
  | [] => by simp [rootS]
  | [_] => by simp [rootS]
  | y :: z :: r => by
    rw [rootS]
    have := rootS_le (z :: r)
    split
    · simp only [List.length_cons] at *; omega
    · omega
end Mine
end
section
open PySem PySem.W PySem.Calls PyProof.Rows
set_option maxRecDepth 100000
set_option maxHeartbeats 8000000
namespace Mine
theorem len_getD {ss : List Str} {B : Nat} (h : ∀ y ∈ ss, y.length ≤ B) (i : Nat) : (ss.getD i Str.empty).length ≤ B := by
  rw [List.getD_eq_getElem?_getD]
  cases e : ss[i]? with
  | none => exact Nat.zero_le _
  | some y => exact h y (List.mem_of_getElem? e)
end Mine
end
section
open PySem PySem.W PySem.Calls PyProof.Rows
set_option maxRecDepth 100000
set_option maxHeartbeats 8000000
namespace Mine
section
variable {prog : Program} {w : World} {A : Around} {E : Value → Shared → Prop} {s : Shared} {h₀ : Heap} {L l : Addr} {m : Str → Option Value} {news : List (Addr × Obj)} {value slice : PySem.Expr} {us ws : List Value} {ss ms ts : List Str} {vl vu : Value} {lo hi : Option Int} {x y : Int} {Q : Value → Shared → Prop}

theorem sl_upto (hs : StrsAre us ss) (h : 0 ≤ y) : StrsAre (slicePick us.toArray none (some y) none).toList (ss.take y.toNat) := by
  have e : sliceBounds none (some y) none us.toArray.size = (((0 : Nat) : Int), ((min y.toNat us.toArray.size : Nat) : Int), 1) := by
    simp only [sliceBounds, Option.getD_none, show (1 : Int) > 0 by decide, if_true, if_neg (show ¬ (y < 0) by omega)]
    congr 1
    congr 1
    omega
  rw [kmk_pick_nat _ e]
  show StrsAre ((us.drop 0).take (min y.toNat us.toArray.size - 0)) _
  rw [List.drop_zero, Nat.sub_zero, List.size_toArray, kmk_take_min]
  exact hs.take' _
theorem sl_from (hs : StrsAre us ss) (h : 0 ≤ x) : StrsAre (slicePick us.toArray (some x) none none).toList (ss.drop x.toNat) := by
  have e : sliceBounds (some x) none none us.toArray.size = (((min x.toNat us.toArray.size : Nat) : Int), ((us.toArray.size : Nat) : Int), 1) := by
    simp only [sliceBounds, Option.getD_none, show (1 : Int) > 0 by decide, if_true, if_neg (show ¬ (x < 0) by omega)]
    congr 1
    omega
  rw [kmk_pick_nat _ e]
  show StrsAre ((us.drop (min x.toNat us.toArray.size)).take (us.toArray.size - min x.toNat us.toArray.size)) _
  rw [List.size_toArray, kmk_drop_min, List.take_of_length_le (by rw [List.length_drop]; omega)]
  exact hs.drop' _
theorem sl_init (hs : StrsAre us ss) : StrsAre (slicePick us.toArray none (some (-1)) none).toList ss.dropLast := by
  have e : sliceBounds none (some (-1)) none us.toArray.size = (((0 : Nat) : Int), ((us.toArray.size - 1 : Nat) : Int), 1) := by
    simp only [sliceBounds, Option.getD_none, show (1 : Int) > 0 by decide, if_true, if_pos (show (-1 : Int) < 0 by decide)]
    congr 1
    congr 1
    omega
  rw [kmk_pick_nat _ e]
  show StrsAre ((us.drop 0).take (us.toArray.size - 1 - 0)) _
  rw [List.drop_zero, Nat.sub_zero, List.size_toArray, strs_len hs, List.dropLast_eq_take]
  exact hs.take' _
theorem sl_last (hs : StrsAre us ss) : StrsAre (slicePick us.toArray (some (-1)) none none).toList (ss.drop (ss.length - 1)) := by
  have e : sliceBounds (some (-1)) none none us.toArray.size = (((us.toArray.size - 1 : Nat) : Int), ((us.toArray.size : Nat) : Int), 1) := by
    simp only [sliceBounds, Option.getD_none, show (1 : Int) > 0 by decide, if_true, if_pos (show (-1 : Int) < 0 by decide)]
    congr 1
    omega
  rw [kmk_pick_nat _ e]
  show StrsAre ((us.drop (us.toArray.size - 1)).take (us.toArray.size - (us.toArray.size - 1))) _
  rw [List.size_toArray, List.take_of_length_le (by rw [List.length_drop]; omega), strs_len hs]
  exact hs.drop' _

theorem strs_slice (F : Fr h₀ L s.heap m) (N : News h₀ L s.heap news) (hl : s.heap.IsList l us.toArray) (pl : IsPart vl lo) (pu : IsPart vu hi) (hm : StrsAre (slicePick us.toArray lo hi none).toList ms)
    (h : ∀ D ws h', Fr h₀ L h' m → News h₀ L h' ((D, listOf (List.toArray ws) 0) :: news) → (∀ p ∈ news, p.1 < D) → StrsAre ws ms → Q (.ref D) { s with heap := h' })
    (hs : subscripted slice false (.ref l) (.ref s.heap.objs.size) = operate [.ref s.heap.objs.size, .ref l] (getItem (.ref l) (.ref s.heap.objs.size))) (ht : ∀ r, letTemporaryGo value (.ref l) r = pure ()) (hz : us.length ≤ sizeLine) :
    wpAny (model prog w) A (subscriptTail value slice (.ref l) (.ref s.heap.objs.size)) Q E { s with heap := s.heap.push { cls := .type "slice", data := .fields #[vl, vu, .none] } } := by
  refine kmk_slice F N hl pl pu (fun D h' F' N' l1 => h D (slicePick us.toArray lo hi none).toList h' F' ?_ l1 hm) hs ht (by rw [List.size_toArray]; exact hz)
  rw [Array.toArray_toList]
  exact N'

theorem strs_cat {a b : Addr} (F : Fr h₀ L s.heap m) (N : News h₀ L s.heap news) (ha : s.heap.IsList a us.toArray) (hb : s.heap.IsList b ws.toArray) (hi : StrsAre us ss) (hj : StrsAre ws ts)
    (h : ∀ D vs h', Fr h₀ L h' m → News h₀ L h' ((D, listOf (List.toArray vs) 0) :: news) → (∀ p ∈ news, p.1 < D) → StrsAre vs (ss ++ ts) → Q (.ref D) { s with heap := h' })
    (hz : ss.length + ts.length ≤ sizeLine) : wpAny (model prog w) A (binaryOp .Add (.ref a) (.ref b)) Q E s :=
  add_lists F N ha hb (fun h' F' N' => h _ _ h' F' N' (fun p hp => Heap.lt_size (N p hp).1) (hi.append' hj)) (by rw [strs_len hi, strs_len hj]; exact hz)
end
end Mine
end
section
open PySem PySem.W PySem.Calls PyProof.Rows
set_option maxRecDepth 100000
set_option maxHeartbeats 8000000
namespace Mine
/-- a row's weight: its signs and its pieces -/
def wt (ss : List Str) : Nat := (ss.map (·.length)).sum + ss.length
theorem wt_nil : wt [] = 0 := rfl
theorem wt_cons (y : Str) (ss : List Str) : wt (y :: ss) = y.length + 1 + wt ss := by
  unfold wt; simp only [List.map_cons, List.sum_cons, List.length_cons]; omega
theorem wt_append (ss ts : List Str) : wt (ss ++ ts) = wt ss + wt ts := by
  unfold wt; simp only [List.map_append, List.sum_append, List.length_append]; omega
theorem wt_drop (ss : List Str) (k : Nat) : wt (ss.drop k) ≤ wt ss := by
  have := wt_append (ss.take k) (ss.drop k)
  rw [List.take_append_drop] at this; omega
theorem wt_take (ss : List Str) (k : Nat) : wt (ss.take k) ≤ wt ss := by
  have := wt_append (ss.take k) (ss.drop k)
  rw [List.take_append_drop] at this; omega
theorem wt_init (ss : List Str) : wt ss.dropLast ≤ wt ss := by rw [List.dropLast_eq_take]; exact wt_take _ _
theorem wt_len (ss : List Str) : ss.length ≤ wt ss := by unfold wt; omega
theorem wt_mem {ss : List Str} {y : Str} (h : y ∈ ss) : y.length + 1 ≤ wt ss := by
  induction ss with
  | nil => cases h
  | cons z r ih =>
    rw [wt_cons]
    rcases List.mem_cons.mp h with rfl | h
    · omega
    · have := ih h; omega
theorem wt_rev (ss : List Str) : wt ss.reverse = wt ss := by
  induction ss with
  | nil => rfl
  | cons y r ih => rw [List.reverse_cons, wt_append, ih, wt_cons, wt_cons, wt_nil]; omega
theorem wt_filter (f : Str → Bool) (ss : List Str) : wt (ss.filter f) ≤ wt ss := by
  induction ss with
  | nil => exact Nat.le_refl _
  | cons y r ih =>
    rw [List.filter_cons]
    split
    · rw [wt_cons, wt_cons]; omega
    · rw [wt_cons]; omega

section
variable {prog : Program} {w : World} {A : Around} {E : Value → Shared → Prop} {s : Shared} {a b : Addr} {xs ys : List Value} {ns ms : List Str} {Q : Value → Shared → Prop}
theorem st_canLayAll0 : ∀ ns : List Str, (∀ z ∈ ns, PyData.strOk z = true) → PyData.canLayAll0 (ns.map PyData.str) = true
  | [], _ => rfl
  | y :: r, h => by
    have h1 := h y (List.mem_cons_self ..)
    have h2 := st_canLayAll0 r fun z hz => h z (List.mem_cons_of_mem _ hz)
    simp [PyData.canLayAll0, PyData.canLay0, h1, h2]
theorem st_depthAll : ∀ ns : List Str, PyData.depthAll (ns.map PyData.str) = 0
  | [] => rfl
  | _ :: r => by simp [PyData.depthAll, PyData.depth, st_depthAll r]
theorem st_shaped (ns : List Str) (h : ∀ z ∈ ns, PyData.strOk z = true) : SeqAt.shaped (.list (ns.map PyData.str)) = true := by
  simp [SeqAt.shaped, PyData.canLay0, PyData.depth, st_canLayAll0 ns h, st_depthAll]
theorem st_sameAll : ∀ ns ms : List Str, PySem.Spec.sameAll (ns.map PyData.str) (ms.map PyData.str) = decide (ns = ms)
  | [], [] => by simp [PySem.Spec.sameAll]
  | [], _ :: _ => by simp [PySem.Spec.sameAll]
  | _ :: _, [] => by simp [PySem.Spec.sameAll]
  | a :: r, b :: t => by
    simp only [List.map_cons, PySem.Spec.sameAll, PySem.Spec.same, st_sameAll r t]
    by_cases h : a = b <;> by_cases h' : r = t <;> simp [h, h']
theorem st_same (ns ms : List Str) : PySem.Spec.same (.list (ns.map PyData.str)) (.list (ms.map PyData.str)) = decide (ns = ms) := by
  simp only [PySem.Spec.same]; exact st_sameAll ns ms
theorem st_eq (ha : s.heap.IsList a xs.toArray) (hb : s.heap.IsList b ys.toArray) (hi : StrsAre xs ns) (hj : StrsAre ys ms) (ho : ∀ z ∈ ns, PyData.strOk z = true) (ho2 : ∀ z ∈ ms, PyData.strOk z = true) (hu : A.units + 64 < cLine) (h : Q (.bool (decide (ns = ms))) s) :
    wpAny (model prog w) A (compareOp .Eq (.ref a) (.ref b)) Q E s :=
  eq_dataH_same (reads_newData ha hi.carried) (reads_newData hb hj.carried) (st_shaped _ ho) (st_shaped _ ho2) hu (SeqAt.noMix_of_shape (.list .str) rfl _ _ (list_map_has fun _ => rfl) (list_map_has fun _ => rfl)) (by rw [st_same]; exact h)
theorem join_wt {x : Str} {t : Tok} {us : List Value} (hl : s.heap.IsList a us.toArray) (hi : StrsAre us ns) (hsep : x.length ≤ 16) (hw : wt ns ≤ 1048576)
    (h : ∀ t' k, Q (.str (Txt.join x ns) t') { s with toks := k }) : wpAny (model prog w) A (call (.builtin "str.join") [.str x t, .ref a]) Q E s :=
  join_listW hl (by simpa using hi) hsep hw h
end

section
variable {prog : Program} {w : World} {A A₀ : Around} {s : Shared} {K : Frag} {L : Addr} {h₀ base : Heap} {m mg mb : Str → Option Value} {p : Program} {loose : List Str} {mean : ExcName → Option Value}
/-- a def with a rest parameter is entered, all that stood before stands in the base -/
theorem ro_rest {env : Env} {outer : List Env} {R : Result → Shared → Prop} {name qual : Str} {params : Arguments} {body : List Stmt} {scope : Scope} {dV kV doc pm cdv ct oc : Value} {an od : Option Addr} {osl : Array (Option Value)} {f : Addr} {args : Args} {vs : List Value} {g₁ : Addr → Option (List (Str × Value))} {binds : Addr → List (Str × Value)}
    (B : Below A₀ base outer h₀) (F : Fr h₀ L s.heap m) (X₀ : K.In h₀) (T : Top p loose mean mg mb h₀) (hA : A.frames = some (env :: outer)) (hf : env.frame = some L) (hke : env.scope.kind = .function)
    (ho : K.lookup f = some ⟨oc, od, .func (fnOf name qual params body scope dV kV doc pm an cdv ct), osl⟩) (hcd : codeIn K cdv qual = true) (hroom : A.depth < recursionLimit)
    (hv : args.pos.drop (params.posonlyargs.length + params.args.length) = vs)
    (hp : peek1 K ⟨prog, w.params⟩ (bindArgs (fnOf name qual params body scope dV kV doc pm an cdv ct) args) = some (({ cls := .type "tuple", data := .seq vs.toArray } : Obj), g₁))
    (hg : ∀ D, g₁ D = some (binds D)) (hloc : ∀ D, ∀ y ∈ binds D, scope.names.lookup y.1 = some .local)
    (h : ∀ D g L' h₁, (∀ b o, s.heap.get? b = some o → g.get? b = some o) → Fr g L' h₁ (fun y => (binds D).reverse.lookup y) → News g L' h₁ [(D, ({ cls := .type "tuple", data := .seq vs.toArray } : Obj))] → Below A base (env :: outer) g → K.In g → Top p loose mean mg mb g →
      wpAny (model prog w) (A.deeper (envOf qual scope L' f cdv)) (execs body (envOf qual scope L' f cdv))
        (fun fl s' => LeaveK h₀ L m g R (match fl with | .ret v => v | _ => .none) s')
        (fun e s' => wpAny (model prog w) (A.deeper (envOf qual scope L' f cdv)) (leaving (envOf qual scope L' f cdv) e) (fun _ s'' => R (.error e) s'') (fun e' s'' => R (.error e') s'') s')
        { s with heap := h₁, toks := s.toks + (binds D).length })
    (hco : scope.isCoroutine = false) (hgen : scope.isGenerator = false) (hk : scope.kind = .function)
    (hcell : ∀ x ∈ scope.names, x.2 ≠ .cell) : codeAny (model prog w) A (.call (.ref f) args) R s := by
  have _ := hv
  refine codeAny_call_function (fd := fnOf name qual params body scope dV kV doc pm an cdv ct) (body := body) hroom ((X₀.keeps F.keep) _ _ ho) rfl hco hgen rfl (codeRec_of (X₀.keeps F.keep) hcd) ?_
  -- the tuple goes on at the heap's end: what stood stands
  have key : ∀ (t : Sem (List (Str × Value))) (g : Addr → Option (List (Str × Value))), peek1 K ⟨prog, w.params⟩ t = some (({ cls := .type "tuple", data := .seq vs.toArray } : Obj), g) → (∀ D, g D = some (binds D)) →
      ∀ (Q : List (Str × Value) → Shared → Prop) (A : Around) (E : Value → Shared → Prop), Q (binds s.heap.objs.size) { s with heap := s.heap.push ({ cls := .type "tuple", data := .seq vs.toArray } : Obj) } → wpAny (model prog w) A t Q E s := by
    intro t
    induction t with
    | rule _ k ih => intro g e hg Q A E q Γ p hΓ; exact ih () g e hg Q A E q Γ p hΓ
    | point _ k ih => intro g e hg Q A E q Γ p hΓ; exact ih () g e hg Q A E q Γ p hΓ
    | ask k ih => intro g e hg Q A E q Γ p hΓ; exact ih _ g e hg Q A E q Γ p hΓ
    | load a _ k ih =>
      intro g e hg Q A E q Γ p hΓ
      simp only [peek1] at e
      split at e
      · rename_i ob ho; exact ⟨ob, (X₀.keeps F.keep) _ _ ho, ih ob g e hg Q A E q Γ p hΓ⟩
      · cases e
    | alloc ob k _ =>
      intro g e hg Q A E q
      have e : some (ob, fun D => peek K ⟨prog, w.params⟩ (k D)) = some (({ cls := .type "tuple", data := .seq vs.toArray } : Obj), g) := e
      obtain ⟨e1, e2⟩ := Prod.mk.inj (Option.some.inj e)
      subst e1
      subst e2
      have X' : K.In (s.heap.push ({ cls := .type "tuple", data := .seq vs.toArray } : Obj)) := (X₀.keeps F.keep).keeps fun b x hb => Heap.get?_push_of_some _ hb
      show wpAny (model prog w) A (alloc _ >>= k) Q E s
      refine wpAny_bind (wpAny_alloc ?_)
      exact (Looks.of_peek (M := model prog w) (h := s.heap.push _) X' (hg s.heap.objs.size)).here (s := { s with heap := s.heap.push _ }) q
    | _ => intro g e; cases e
  refine key _ g₁ hp hg _ _ _ ?_
  have N' : News h₀ L (s.heap.push ({ cls := .type "tuple", data := .seq vs.toArray } : Obj)) [(s.heap.objs.size, ({ cls := .type "tuple", data := .seq vs.toArray } : Obj))] := News.push F News.nil _ rfl
  obtain ⟨FG, BG, st, lv⟩ := groundX (s := { s with heap := s.heap.push ({ cls := .type "tuple", data := .seq vs.toArray } : Obj) }) (R := R) B (F.push _) N' hA hf hke
  refine wpAny_newFunctionEnv hcell (hloc _) (fun h₁ hns hsb => ⟨(T.nolimit.keeps (F.push _).keep).fresh _ hsb, codeAny_func ?_⟩) hk
  have hk₁ : ∀ b o, (s.heap.push ({ cls := .type "tuple", data := .seq vs.toArray } : Obj)).get? b = some o → h₁.get? b = some o := fun b o e => hsb.extBut b o (Nat.ne_of_lt (Heap.lt_size e)) (Heap.get?_push_of_some _ e)
  refine wpAny_mono (h s.heap.objs.size _ _ h₁ (fun b o e => hideAll_get _ (Heap.get?_push_of_some _ e) (by intro q; exact absurd (Heap.lt_size e) ((List.mem_singleton.mp q) ▸ Nat.lt_irrefl _))) ⟨hns, fun b o e => hk₁ b o (of_hideAll _ e), Nat.le_of_eq (hideAll_size _ _)⟩
    (fun p hp => ⟨hk₁ _ _ (N' p hp).1, Nat.ne_of_lt (Heap.lt_size (N' p hp).1), hideAll_none _ (List.mem_map_of_mem hp)⟩) BG (X₀.keeps st) (T.keeps st)) (fun fl s' hl => lv _ _ hl) fun _ _ y => y
end
section
variable {h₀ : Heap} {L : Addr} {m : Str → Option Value} {s : Shared} {Q : Value → Shared → Prop}
theorem ro_endTg {x y : Str} {t : Tok} {h' g : Heap} {tk' : Nat} (hret : ∀ r h' tk', Fr h₀ L h' m → (∀ b o, s.heap.get? b = some o → h'.get? b = some o) → IsT x s.heap h' r → Q r { s with heap := h', toks := tk' })
    {L' : Addr} {m' : Str → Option Value} (F : Fr h₀ L h' m) (k : ∀ b o, s.heap.get? b = some o → g.get? b = some o) (F' : Fr g L' h' m') (e : y = x) : Q (.str y t) { s with heap := h', toks := tk' } := hret _ _ _ F (fun b o q => F'.keep b o (k b o q)) ⟨t, by rw [e]⟩
end
end Mine
end
section
open PySem PySem.W PySem.Calls PyProof.Rows
set_option maxRecDepth 100000
set_option maxHeartbeats 8000000
namespace Mine
/-- a row without the empty pieces at its end -/
def stripE : List Str → List Str
  | [] => []
  | y :: r => if stripE r = [] ∧ y = Str.ofString "" then [] else y :: stripE r
theorem stripE_init {ss : List Str} (h : ss.getD (ss.length - 1) Str.empty = Str.ofString "") (hne : 0 < ss.length) : stripE ss.dropLast = stripE ss := by
  induction ss with
  | nil => rfl
  | cons y r ih =>
    cases r with
    | nil =>
      have : y = Str.ofString "" := h
      simp [stripE, this]
    | cons z t =>
      have h' : (z :: t).getD ((z :: t).length - 1) Str.empty = Str.ofString "" := h
      have := ih h' (Nat.succ_pos _)
      rw [List.dropLast_cons_cons, stripE, this, ← stripE]
theorem stripE_last {ss : List Str} (h : ss.getD (ss.length - 1) Str.empty ≠ Str.ofString "") (hne : 0 < ss.length) : stripE ss = ss := by
  induction ss with
  | nil => cases hne
  | cons y r ih =>
    cases r with
    | nil =>
      have : y ≠ Str.ofString "" := h
      simp [stripE, this]
    | cons z t =>
      have h' : (z :: t).getD ((z :: t).length - 1) Str.empty ≠ Str.ofString "" := h
      have := ih h' (Nat.succ_pos _)
      rw [stripE, this, if_neg (fun q => by cases q.1)]
theorem stripE_pos {ss : List Str} (h : stripE ss ≠ []) : 0 < ss.length := by
  cases ss with
  | nil => exact absurd rfl h
  | cons y r => exact Nat.succ_pos _
theorem join_empty : ∀ {ss : List Str}, stripE ss = [] → Txt.join (Str.ofString "") ss = Str.ofString "" := by
  have key : ∀ {ss : List Str}, stripE ss = [] → ∀ y ∈ ss, y = Str.ofString "" := by
    intro ss
    induction ss with
    | nil => intro _ y hy; cases hy
    | cons z r ih =>
      intro h y hy
      rw [stripE] at h
      split at h
      · rename_i q
        rcases List.mem_cons.mp hy with rfl | hy
        · exact q.2
        · exact ih q.1 y hy
      · cases h
  have e0 : Str.ofString "" = Str.empty := by decide +kernel
  intro ss h
  show Builtin.Str.glued _ _ = _
  rw [StrLaws.glued_eq_join]
  have := key h
  clear h key
  induction ss with
  | nil => exact e0.symm
  | cons y r ih =>
    have hy := this y (List.mem_cons_self ..)
    have hr := ih fun z hz => this z (List.mem_cons_of_mem _ hz)
    cases r with
    | nil => exact hy
    | cons z t =>
      show y ++ Str.ofString "" ++ Str.join (Str.ofString "") (z :: t) = _
      rw [hr, hy, e0, Str.empty_append, Str.empty_append]
/-- what _law_above makes of a row -/
def aboveS (ss : List Str) : List Str := if Txt.join (Str.ofString "") ss.dropLast = Str.ofString "" then ss.dropLast ++ [Str.ofString ""] else stripE ss.dropLast
theorem news_head {h₀ h : Heap} {L : Addr} {p : Addr × Obj} {l : List (Addr × Obj)} (N : News h₀ L h (p :: l)) : News h₀ L h [p] := fun q hq => N q (by rw [List.mem_singleton.mp hq]; exact List.mem_cons_self ..)
end Mine
end
section
open PySem PySem.W PySem.Calls PyProof.Rows
set_option maxRecDepth 100000
set_option maxHeartbeats 8000000
namespace Mine
theorem strs_rev {us : List Value} {ss : List Str} (h : StrsAre us ss) : StrsAre us.reverse ss.reverse := by
  induction h with
  | nil => exact .nil
  | cons y t _ ih => rw [List.reverse_cons, List.reverse_cons]; exact ih.append' (.cons _ _ .nil)
theorem allLt_mem {d : Addr} : ∀ {l : List (Addr × Obj)}, AllLt d l → ∀ p ∈ l, p.1 < d
  | [], _, _, h => nomatch h
  | _ :: _, h, p, hp => by
    rcases List.mem_cons.mp hp with rfl | hp
    · exact h.1
    · exact allLt_mem h.2 p hp
section
variable {prog : Program} {w : World} {A : Around} {E : Value → Shared → Prop} {s : Shared} {h₀ : Heap} {L l : Addr} {m : Str → Option Value} {news : List (Addr × Obj)} {value slice : PySem.Expr} {us : List Value} {ss : List Str} {vk : Value} {Q : Value → Shared → Prop} {ops : List Value}
theorem strs_back (F : Fr h₀ L s.heap m) (N : News h₀ L s.heap news) (hl : s.heap.IsList l us.toArray) (pk : IsPart vk (some (-1))) (hm : StrsAre us ss)
    (h : ∀ D ws h', Fr h₀ L h' m → News h₀ L h' ((D, listOf (List.toArray ws) 0) :: news) → (∀ p ∈ news, p.1 < D) → StrsAre ws ss.reverse → Q (.ref D) { s with heap := h' })
    (hs : subscripted slice false (.ref l) (.ref s.heap.objs.size) = operate ops (getItem (.ref l) (.ref s.heap.objs.size))) (ht : ∀ r, letTemporaryGo value (.ref l) r = pure ()) (hz : us.length ≤ sizeLine) :
    wpAny (model prog w) A (subscriptTail value slice (.ref l) (.ref s.heap.objs.size)) Q E { s with heap := s.heap.push { cls := .type "slice", data := .fields #[.none, .none, vk] } } :=
  kmk_slice3_lit F N hl IsPart.none IsPart.none pk (by decide) (by rw [krv_pick]) (fun D h' F' N' l1 => h D _ h' F' N' l1 (by simpa using strs_rev hm)) hs ht (by rw [List.size_toArray]; exact hz)
end
/-- one step of _law_straight, from behind -/
def strStep (st : List Str × Nat) (p : Str) : List Str × Nat :=
  if p = Str.ofString ".." then (st.1, st.2 + 1)
  else if p = Str.ofString "" ∨ p = Str.ofString "." then st
  else if 0 < st.2 then (st.1, st.2 - 1) else (p :: st.1, st.2)
def strEnd (ss : List Str) : List Str × Nat := ss.reverse.foldl strStep ([], 0)
/-- what _law_straight makes of a row -/
def straightS (ss : List Str) : List Str :=
  let k := (strEnd ss).1
  let d := (strEnd ss).2
  if rootS ss = 0 then (if List.replicate d (Str.ofString "..") ++ k = [] then [Str.ofString "."] else List.replicate d (Str.ofString "..") ++ k)
  else List.replicate (if rootS ss < 3 then rootS ss else 1) (Str.ofString "") ++ (if k = [] then [Str.ofString ""] else k)
theorem strStep_wt (st : List Str × Nat) (p : Str) : wt (strStep st p).1 + (strStep st p).2 ≤ wt st.1 + st.2 + (p.length + 1) := by
  unfold strStep
  split
  · show wt st.1 + (st.2 + 1) ≤ _; omega
  · split
    · omega
    · split
      · show wt st.1 + (st.2 - 1) ≤ _; omega
      · show wt (p :: st.1) + st.2 ≤ _; rw [wt_cons]; omega
theorem fold_wt : ∀ (l : List Str) (st : List Str × Nat), wt (l.foldl strStep st).1 + (l.foldl strStep st).2 ≤ wt st.1 + st.2 + wt l
  | [], st => by rw [wt_nil]; exact Nat.le_refl _
  | p :: l, st => by
    rw [List.foldl_cons, wt_cons]
    have h1 := fold_wt l (strStep st p)
    have h2 := strStep_wt st p
    omega
theorem take_fold (rs : List Str) (i : Nat) (p : Str) (h : rs[i]? = some p) (st : List Str × Nat) : (rs.take (i + 1)).foldl strStep st = strStep ((rs.take i).foldl strStep st) p := by
  rw [List.take_add_one, h]; simp
theorem news_sub {h₀ h : Heap} {L : Addr} {l news : List (Addr × Obj)} (N : News h₀ L h news) (hs : ∀ p ∈ l, p ∈ news) : News h₀ L h l := fun p hp => N p (hs p hp)
theorem pick_led {h₀ h : Heap} {L : Addr} {m : Str → Option Value} {news : List (Addr × Obj)} {x : Str} {o : Obj} {D : Addr} (F : Fr h₀ L h m) (N : News h₀ L h news) (hm : m x = some (.ref D)) (hn : (D, o) ∈ news) :
    ∃ D, m x = some (.ref D) ∧ News h₀ L h [(D, o)] := ⟨D, hm, news_sub N fun p hp => by rw [List.mem_singleton.mp hp]; exact hn⟩
theorem fr_at2 {h₀ h : Heap} {L : Addr} {m : Str → Option Value} {x : Str} {v : Value} (ps : List (Str × Value)) (F : Fr h₀ L h (fun y => if y = x then some v else m y)) (e : ∀ p ∈ ps, m p.1 = some p.2) : Fr h₀ L h (fun y => if y = x then some v else kstB m ps y) := by
  have : kstB m ps = m := by
    funext z
    exact kstB_eq e fun _ => rfl
  rw [this]; exact F
theorem any2_t {a b p : Str} (h : ([a, b].any fun x => x == p) = true) : p = a ∨ p = b := by
  simp only [List.any_cons, List.any_nil, Bool.or_false, Bool.or_eq_true, beq_iff_eq] at h
  exact h.imp Eq.symm Eq.symm
theorem any2_f {a b p : Str} (h : ([a, b].any fun x => x == p) = false) : ¬ (p = a ∨ p = b) := by
  simp only [List.any_cons, List.any_nil, Bool.or_false, Bool.or_eq_false_iff, beq_eq_false_iff_ne] at h
  exact fun q => q.elim (fun e => h.1 e.symm) fun e => h.2 e.symm
theorem beq_f {a b : Str} (h : (a == b) = false) : a ≠ b := by
  intro e; rw [e] at h; simp at h
theorem strs_at {us : List Value} {ss : List Str} (h : StrsAre us ss) {i : Nat} {v : Value} (e : us[i]? = some v) : ∃ y t, v = .str y t ∧ ss[i]? = some y := strs_get h e
end Mine
end
section
open PySem PySem.W PySem.Calls PyProof.Rows
set_option maxRecDepth 100000
set_option maxHeartbeats 8000000
namespace Mine
theorem fold_rep (v : Value) : ∀ (n : Nat) (a : Array Value), List.foldl (fun x1 x2 => x1 ++ x2) a (List.replicate n #[v]) = a ++ (List.replicate n v).toArray
  | 0, a => by simp
  | n + 1, a => by
    rw [List.replicate_succ, List.foldl_cons, fold_rep v n]
    apply Array.ext'
    simp [List.replicate_succ]
theorem strs_replicate (y : Str) (t : Tok) : ∀ n : Nat, StrsAre (List.replicate n (.str y t)) (List.replicate n y)
  | 0 => .nil
  | n + 1 => .cons _ _ (strs_replicate y t n)
section
variable {prog : Program} {w : World} {A : Around} {E : Value → Shared → Prop} {s : Shared} {h₀ : Heap} {L l : Addr} {m : Str → Option Value} {news : List (Addr × Obj)} {us : List Value} {ss : List Str}
theorem strs_rep {y : Str} {t u : Tok} {k : Nat} {x : Int} {Q : Value → Shared → Prop} (F : Fr h₀ L s.heap m) (N : News h₀ L s.heap news) (hl : (l, listOf #[.str y t] k) ∈ news) (hlo : 0 ≤ x) (hhi : x ≤ 60000)
    (h : ∀ D ws h', Fr h₀ L h' m → News h₀ L h' ((D, listOf (List.toArray ws) 0) :: news) → (∀ p ∈ news, p.1 < D) → StrsAre ws (List.replicate x.toNat y) → Q (.ref D) { s with heap := h' }) :
    wpAny (model prog w) A (binaryOp .Mult (.ref l) (.int x u)) Q E s := by
  refine mul_list (items := #[.str y t]) F N (N _ hl).1 (by omega) (by omega) (by show 1 * x.toNat ≤ _; omega) (fun h' F' N' => h _ (List.replicate x.toNat (.str y t)) h' F' ?_ (fun p hp => Heap.lt_size (N p hp).1) (strs_replicate y t _))
  have e : (if (#[Value.str y t] : Array Value).isEmpty = true then 0 else x.toNat) = x.toNat := rfl
  rw [e, fold_rep, Array.empty_append] at N'
  exact N'
theorem strs_truth {Q : Bool → Shared → Prop} (hl : s.heap.IsList l us.toArray) (hi : StrsAre us ss) (hz : ss.length ≤ sizeLine) (h : ∀ tk, Q (decide (ss ≠ [])) { s with toks := tk }) : wpAny (model prog w) A (truthy (.ref l)) Q E s := by
  have e := strs_len hi
  refine wpAny_truthy_list hl (by rw [List.size_toArray, e]; rw [sizeLine_eq] at hz; omega) ?_
  have : (!us.toArray.isEmpty) = decide (ss ≠ []) := by
    cases ss with
    | nil => cases hi; rfl
    | cons a r => cases hi; rfl
  rw [this]
  exact h _
end
end Mine
end
section
open PySem PySem.W PySem.Calls PyProof.Rows
set_option maxRecDepth 100000
set_option maxHeartbeats 8000000
namespace Mine
open LCg
section
variable {prog : Program} {w : World} {A : Around} {E : Value → Shared → Prop} {s : Shared} {h₀ : Heap} {L : Addr} {m : Str → Option Value} {env : Env}
/-- a tuple of the ledger -/
abbrev tupOf (vs : List Value) (k : Nat) : Obj := { cls := .type "tuple", data := .seq vs.toArray k }
/-- a comprehension's source that is a tuple of the ledger -/
def TupSrc (prog : Program) (w : World) (A : Around) (h₀ : Heap) (L : Addr) (m : Str → Option Value) (env : Env) (elt : PySem.Expr) (x : Str) (scope : Scope) (cl : List (Str × Addr)) (Fin : Shared → List Value → List (Addr × Obj) → Prop) (xv : Value) (s₁ : Shared) : Prop :=
  ∃ ax vs k news, xv = .ref ax ∧ A.handled = none ∧ Fr h₀ L s₁.heap m ∧ News h₀ L s₁.heap news ∧ (ax, tupOf vs k) ∈ news ∧ vs.length ≤ sizeLine ∧
    ∀ g, CompRest prog w A h₀ L m env elt x scope cl { s₁ with heap := g } (fun nw => (ax, tupOf vs k) ∈ nw) (fun i v => vs[i]? = some v) (Fin { s₁ with heap := g }) vs.length 0 [] news
theorem TupSrc.intro {elt : PySem.Expr} {x : Str} {scope : Scope} {cl : List (Str × Addr)} {Fin : Shared → List Value → List (Addr × Obj) → Prop} {ax : Addr} {vs : List Value} {k : Nat} {news : List (Addr × Obj)} {s₁ : Shared}
    (hh : A.handled = none) (F : Fr h₀ L s₁.heap m) (N : News h₀ L s₁.heap news) (hm : (ax, tupOf vs k) ∈ news) (hsz : vs.length ≤ sizeLine)
    (h : ∀ g, CompRest prog w A h₀ L m env elt x scope cl { s₁ with heap := g } (fun nw => (ax, tupOf vs k) ∈ nw) (fun i v => vs[i]? = some v) (Fin { s₁ with heap := g }) vs.length 0 [] news) :
    TupSrc prog w A h₀ L m env elt x scope cl Fin (.ref ax) s₁ := ⟨ax, vs, k, news, rfl, hh, F, N, hm, hsz, h⟩
theorem tup_st {ax I : Addr} {vs : List Value} {k : Nat} : ∀ i (h h' : Heap) (o : Obj) (nw : List (Addr × Obj)), (h.IsTupleIter I ax i ∧ h.IsTuple ax vs.toArray) → h.get? I = some o → h'.get? I = some o → (∀ b o, h₀.get? b = some o → h'.get? b = some o) → News h₀ L h' nw → (ax, tupOf vs k) ∈ nw → (h'.IsTupleIter I ax i ∧ h'.IsTuple ax vs.toArray) :=
  fun i h h' o nw st e e' _ N S => ⟨by obtain ⟨o', q, r⟩ := st.1; rw [e] at q; cases q; exact ⟨o, e', r⟩, ⟨_, (N _ S).1, rfl, _, rfl⟩⟩

theorem Assign_ListComp_tup {elt iter : PySem.Expr} {x y : Str} {px py : Pos} {scope : Scope} {cl : List (Str × Addr)} {pos spos : Pos} {Q : Flow → Shared → Prop} (_F₀ : Fr h₀ L s.heap m) (hLe : env.locals = L)
    (hsw : swapsWith (.ListComp elt [⟨.Name x px, iter, [], 0⟩] scope pos) (some (.Name y py)) spos.line env = pure true)
    (hclos : closureFor scope env = pure cl) (hcell : ∀ z ∈ scope.names, z.2 ≠ .cell) (hkind : scope.kind = .function)
    (hnames : ∀ z ∈ scope.names, z.2 = .local → scope.names.lookup z.1 = some .local) (hx : scope.names.lookup x = some .local)
    (hy : env.kindOf y = some .local) (hp : (env.scope.kind == .class || (env.scope.kind == .module && env.locals != env.globals)) = false)
    (h : wpAny (model prog w) A (eval iter env) (TupSrc prog w A h₀ L m env elt x scope cl (fun s₂ => FinA h₀ L m s₂ y Q)) E s)
    (hs : ∀ x, foldedSetIterable iter env x = pure x := by intro _; rfl) :
    wpAny (model prog w) A (exec (.Assign [.Name y py] (.ListComp elt [⟨.Name x px, iter, [], 0⟩] scope pos) spos) env) Q E s := by
  subst hLe
  rw [exec_Assign_Name_used _ _ _ _ hsw]
  refine wpAny_bind (wpAny_standAt (wpAny_bind ?_))
  show wpAny _ A (do let _ ← comprehension (.ListComp elt [⟨.Name x px, iter, [], 0⟩] scope pos) scope env _ (newList []) false (eval iter env) (some (assign (.Name y py) env))) _ _ s
  refine wpAny_bind (wpAny_mono (wpAny_comprehension_free (use := some (assign (.Name y py) env)) (Q := fun _ s' => Q .next s') rfl hs hclos hkind hnames
    (wpAny_mono h (fun xv s₁ h₁ => ?_) fun _ _ e => e)) (fun _ s' hq => wpAny_pure (wpAny_pure hq)) fun _ _ e => e)
  obtain ⟨ax, vs, k, news, rfl, hh, F, N, hm, hsz, R⟩ := h₁
  have hl : s₁.heap.IsTuple ax vs.toArray := ⟨_, (N _ hm).1, rfl, _, rfl⟩
  have hlt : ax < s₁.heap.objs.size := Heap.lt_size (N _ hm).1
  refine wpAny_pyIter_tuple hl ?_
  have W := Walks.tuple (prog := prog) (w := w) (A := A) hh s₁.heap.objs.size ax (Nat.ne_of_lt hlt) vs.toArray
  have e1 : vs.toArray.size = vs.length := by simp
  have e2 : (fun i v => vs.toArray[i]? = some v) = fun (i : Nat) (v : Value) => vs[i]? = some v := by funext i v; simp
  rw [e1, e2] at W
  have up : ∀ b o, s₁.heap.get? b = some o → (s₁.heap.push { cls := .type "tuple_iterator", data := .fields #[.ref ax, .int 0 0] }).get? b = some o := fun b o e => Heap.get?_push_of_some _ e
  refine block_U W hsz (fun i h st => by obtain ⟨o, e, _⟩ := st.1; exact ⟨o, e⟩) tup_st hcell hkind hx ⟨⟨_, Heap.get?_push_size _ rfl, rfl, rfl⟩, hl.push _⟩ (fun b hb => ?_)
    (F.keeps up) (N.grown up) (Nat.ne_of_lt F.ns.lt) (next_is_new F) (fun p hp => Nat.ne_of_lt (Heap.lt_size (N p hp).1)) hm (R _) ?_
  · show b < (s₁.heap.push _).objs.size
    rw [Heap.size_push]
    rcases List.mem_cons.mp hb with rfl | hb
    · exact Nat.lt_succ_self _
    · rw [List.mem_singleton.mp hb]; exact Nat.lt_succ_of_lt hlt
  · intro D C h' tk m' ys news' F' N' o1 hn hC₀ hD₀ hCL hDL hCD offC fin
    show wpAny _ A (assign (.Name y py) env (.ref D)) _ _ _
    refine wpAny_assign_Name (wpAny_storeName_local hy F'.ns (fun h₂ hn₂ hs₂ => ?_) hp)
    have hL₀ : h₀.get? env.locals = none := Heap.get?_none_of_le F'.above
    have F₂ : Fr h₀ env.locals h₂ (fun z => if z = y then some (.ref D) else m z) := ⟨hn₂, fun b o e => hs₂.extBut b o (fun q => by rw [q, hL₀] at e; cases e) (F'.keep b o e), F'.above⟩
    refine ⟨m', hn.sameBut hs₂ hCL, fun h'' hs'' => fin D h'' _ (F₂.change hs'' hCL hC₀) (fun p hp => ?_) o1⟩
    have z : h₂.get? p.1 = some p.2 := hs₂.extBut _ _ (N' p hp).2.1 (N' p hp).1
    refine ⟨hs''.extBut _ _ ?_ z, (N' p hp).2⟩
    rcases List.mem_cons.mp hp with rfl | hp
    · exact Ne.symm hCD
    · exact offC p hp

/-- the turns of a comprehension with a test over a list of texts: those that the test takes -/
theorem filt_rest {ct elt : PySem.Expr} {x : Str} {scope : Scope} {cl : List (Str × Addr)} {S : List (Addr × Obj) → Prop} {Fin : List Value → List (Addr × Obj) → Prop} {news : List (Addr × Obj)} {us : List Value} {ss : List Str} (g : Str → Bool) (hi : StrsAre us ss)
    (turn : ∀ p t I oI C oC D m₂ ys h tk (E' : Value → Shared → Prop), p ∈ ss → NsObj oC m₂ → m₂ x = some (.str p t) → Fr h₀ L h m → News h₀ L h ((I, oI) :: (C, oC) :: (D, lst ys) :: news) → Off3 I C D news → ((@Ne Nat I C) ∧ (@Ne Nat I D) ∧ (@Ne Nat C D)) →
      wpAny (model prog w) A (isTrue ct (compEnvC scope cl C env) (eval ct (compEnvC scope cl C env))) (fun ok s' => if ok = true then
        wpAny (model prog w) A (eval elt (compEnvC scope cl C env)) (CompEnd h₀ L m { s with heap := h, toks := tk } I oI C oC D (lst ys) S (fun y news' => news' = news ∧ g p = true ∧ ∃ t, y = .str p t)) E' s'
        else CompEnd h₀ L m { s with heap := h, toks := tk } I oI C oC D (lst ys) S (fun _ news' => news' = news ∧ g p = false) Value.none s') E' { s with heap := h, toks := tk })
    (fin : ∀ ys, StrsAre ys (ss.filter g) → Fin ys news) : LCt.CompRestT prog w A h₀ L m env ct elt x scope cl s S (fun i v => us.toArray[i]? = some v) Fin us.toArray.size 0 [] news := by
  have hn := strs_len hi
  have key : ∀ (j i : Nat) (ys : List Value), i + j = ss.length → StrsAre ys ((ss.take i).filter g) → LCt.CompRestT prog w A h₀ L m env ct elt x scope cl s S (fun i v => us.toArray[i]? = some v) Fin j i ys news := by
    intro j
    induction j with
    | zero =>
      intro i ys hi' hy
      have e : i = ss.length := by omega
      subst e
      rw [List.take_length] at hy
      exact LCt.CompRestT.zero (fin ys hy)
    | succ j ih =>
      intro i ys hi' hy
      refine LCt.CompRestT.succ ?_
      intro v I oI C oC D m₂ h tk E' hv hC hx F N off ne
      obtain ⟨p, t, rfl, hp⟩ := strs_get hi (by simpa using hv)
      have hs : ss.take (i + 1) = ss.take i ++ [p] := by rw [List.take_add_one, hp]; rfl
      refine wpAny_mono (turn p t I oI C oC D m₂ ys h tk E' (List.mem_of_getElem? hp) hC hx F N off ne) (fun ok s₂ hq => ?_) fun _ _ e => e
      cases ok with
      | true =>
        simp only [if_true] at hq ⊢
        refine wpAny_mono hq (fun y s₃ q => ?_) fun _ _ e => e
        obtain ⟨h', tk', nw, e, F', N', off', hS, hnw, hg, t', rfl⟩ := q
        rw [hnw] at N' off' hS
        refine ⟨h', tk', news, e, F', N', off', hS, ih (i + 1) _ (by omega) ?_⟩
        rw [hs, List.filter_append]
        have e2 : [p].filter g = [p] := by simp [hg]
        rw [e2]
        exact hy.append' (.cons _ _ .nil)
      | false =>
        simp only [Bool.false_eq_true, if_false] at hq ⊢
        obtain ⟨h', tk', nw, e, F', N', off', hS, hnw, hg⟩ := hq
        rw [hnw] at N' off' hS
        refine ⟨h', tk', news, e, F', N', off', hS, ih (i + 1) _ (by omega) ?_⟩
        rw [hs, List.filter_append]
        have e2 : [p].filter g = [] := by simp [hg]
        rw [e2, List.append_nil]
        exact hy
  have e := key ss.length 0 [] (by omega) .nil
  have e3 : us.toArray.size = ss.length := by rw [List.size_toArray]; exact hn
  rw [e3]
  exact e
end
theorem notin_t {a b p : Str} (h : ([a, b].any fun x => x == p) = false) : (!(p == a || p == b)) = true := by
  have h' := any2_f h
  simp only [Bool.not_eq_true', Bool.or_eq_false_iff, beq_eq_false_iff_ne]
  exact ⟨fun e => h' (.inl e), fun e => h' (.inr e)⟩
theorem notin_f {a b p : Str} (h : ([a, b].any fun x => x == p) = true) : (!(p == a || p == b)) = false := by
  have h' := any2_t h
  simp only [Bool.not_eq_false', Bool.or_eq_true, beq_iff_eq]
  exact h'
end Mine
end
section
open PySem PySem.W PySem.Calls PyProof.Rows
set_option maxRecDepth 100000
set_option maxHeartbeats 8000000
namespace Mine
/-- the pieces that count -/
def solid (ss : List Str) : List Str := ss.filter fun p => !(p == Str.ofString "" || p == Str.ofString ".")
/-- what two rows begin with alike -/
def cpre : List Str → List Str → List Str
  | x :: a, y :: b => if x = y then x :: cpre a b else []
  | _, _ => []
theorem cpre_take : ∀ (a b : List Str) (k : Nat), a.take k = b.take k → k ≤ a.length → (a.take (k + 1) ≠ b.take (k + 1) ∨ ¬ k < a.length) → cpre a b = a.take k
  | [], _, k, _, _, _ => by simp [cpre]
  | x :: a, [], k, h, hk, _ => by
    cases k with
    | zero => simp [cpre]
    | succ k => simp at h
  | x :: a, y :: b, 0, _, _, h => by
    simp only [List.take_zero, List.take_succ_cons] at h ⊢
    rw [cpre, if_neg]
    intro e
    rcases h with h | h
    · exact h (by rw [e])
    · exact h (Nat.succ_pos _)
  | x :: a, y :: b, k + 1, h, hk, h2 => by
    simp only [List.take_succ_cons, List.cons.injEq, ne_eq, List.length_cons, not_and] at h h2 hk ⊢
    rw [cpre, if_pos h.1, cpre_take a b k h.2 (by omega) (h2.imp (fun q => q h.1) fun q => by omega)]
/-- what _law_shared makes of two rows -/
def sharedS (ss ss2 : List Str) : List Str :=
  List.replicate (if rootS ss < 1 then rootS ss else 1) (Str.ofString "") ++ (if cpre (solid ss) (solid ss2) = [] then [Str.ofString ""] else cpre (solid ss) (solid ss2))
theorem pick_rows {h₀ h : Heap} {L : Addr} {m : Str → Option Value} {news : List (Addr × Obj)} {x : Str} {Dr D1 D2 : Addr} {y1 y2 : List Value} {a b : List Str} (_F : Fr h₀ L h m) (N : News h₀ L h news) (hA : StrsAre y1 a) (hB : StrsAre y2 b) (hm : m x = some (.ref Dr))
    (h1 : (Dr, LCg.lst [.ref D1, .ref D2]) ∈ news) (h2 : (D1, LCg.lst y1) ∈ news) (h3 : (D2, LCg.lst y2) ∈ news) :
    ∃ Dr D1 D2 y1 y2, m x = some (.ref Dr) ∧ News h₀ L h [(Dr, LCg.lst [.ref D1, .ref D2]), (D1, LCg.lst y1), (D2, LCg.lst y2)] ∧ StrsAre y1 a ∧ StrsAre y2 b := by
  refine ⟨Dr, D1, D2, y1, y2, hm, fun p hp => ?_, hA, hB⟩
  simp only [List.mem_cons, List.not_mem_nil, or_false] at hp
  rcases hp with rfl | rfl | rfl
  · exact N _ h1
  · exact N _ h2
  · exact N _ h3
end Mine
end
section
open PySem PySem.W PySem.Calls PyProof.Rows
set_option maxRecDepth 100000
set_option maxHeartbeats 8000000
namespace Mine
def baseT (x : Str) : Str := Txt.slice x (some (Txt.rfind x (Str.ofString "/") + 1)) none
def headT (x : Str) : Str := Txt.slice x none (some (Txt.rfind x (Str.ofString "/") + 1))
def dirT (x : Str) : Str := if (headT x).length ≠ 0 ∧ headT x ≠ Txt.mul (Str.ofString "/") (headT x).length then Txt.rstripChars (headT x) (Str.ofString "/") else headT x
def joinT (x y : Str) : Str := if Txt.startswith y (Str.ofString "/") = true ∨ x.length = 0 then y else if Txt.endswith x (Str.ofString "/") = true then x ++ y else x ++ (Str.ofString "/" ++ y)
/-- splitroot's root -/
def rootT (x : Str) : Str := if Txt.slice x none (some 1) ≠ Str.ofString "/" then Str.ofString "" else
  if Txt.slice x (some 1) (some 2) ≠ Str.ofString "/" ∨ Txt.slice x (some 2) (some 3) = Str.ofString "/" then Str.ofString "/" else Txt.slice x none (some 2)
def tailT (x : Str) : Str := if Txt.slice x none (some 1) ≠ Str.ofString "/" then x else
  if Txt.slice x (some 1) (some 2) ≠ Str.ofString "/" ∨ Txt.slice x (some 2) (some 3) = Str.ofString "/" then Txt.slice x (some 1) none else Txt.slice x (some 2) none
/-- a new tuple of three texts -/
def IsT3 (a b c : Str) : Heap → Heap → Value → Prop := fun h h' r => ∃ D t1 t2 t3 k, r = .ref D ∧ h.get? D = none ∧ h'.get? D = some (tupOf [.str a t1, .str b t2, .str c t3] k)
section
variable {w : World} {nn : Nat} {f : Addr} {vs : List Value} {pre : Heap → Prop} {R : Heap → Heap → Value → Prop} {mean : ExcName → Option Value} {mg mb : Str → Option Value} {dp un : Nat} {gd : Option (List Code)} {cn : Str} {cs : Scope} {a : Addr} {ccd : Value} {cl : List (Str × Addr)} {outer : List Env} {A₀ : Around} {base h₀ : Heap} {L : Addr} {m : Str → Option Value} {s : Shared} {Q E : Value → Shared → Prop} {news : List (Addr × Obj)}
theorem ro_use3 {x y z : Str} (C : RO w nn f vs pre (IsT3 x y z)) (B : Below A₀ base outer h₀) (F : Fr h₀ L s.heap m) (X : (hd.heap_1 w.params).In h₀) (N : News h₀ L s.heap news) (T : Top hd.view_39 (looseW hd.view_39 [Str.ofString "_safe_string"]) mean mg mb h₀) (hk : cs.kind = .function)
    (hd : dp + nn < recursionLimit) (hu : un + 8 * nn < cLine) (hp : pre s.heap)
    (ret : ∀ D t1 t2 t3 k h' tk', Fr h₀ L h' m → News h₀ L h' ((D, tupOf [.str x t1, .str y t2, .str z t3] k) :: news) → (∀ p ∈ news, p.1 ≠ D) → Q (.ref D) { s with heap := h', toks := tk' }) :
    wpAny (model PySem.Challenge.rw_in0025_01.row.prog w) (ktrTop dp un gd cn cs L a ccd cl outer) (call (.ref f) vs) Q E s :=
  C _ _ _ _ _ _ _ _ _ _ _ _ _ _ _ _ _ _ _ _ B F X T hk hd hu hp fun r h' tk' F' k hR => by
    obtain ⟨D, t1, t2, t3, n, rfl, h1, h2⟩ := hR
    obtain ⟨N', ne⟩ := news_more F N k h1 h2
    exact ret D t1 t2 t3 n h' tk' F' N' ne
theorem ro_end3 {x y z : Str} {D : Addr} {t1 t2 t3 : Tok} {n : Nat} {h' : Heap} {tk' : Nat} {x' y' z' : Str} (hret : ∀ r h' tk', Fr h₀ L h' m → (∀ b o, s.heap.get? b = some o → h'.get? b = some o) → IsT3 x y z s.heap h' r → Q r { s with heap := h', toks := tk' })
    {L' : Addr} {m' : Str → Option Value} {led : List (Addr × Obj)} (F : Fr h₀ L h' m) (F' : Fr s.heap L' h' m') (N' : News s.heap L' h' led) (hm : (D, tupOf [.str x' t1, .str y' t2, .str z' t3] n) ∈ led) (e1 : x' = x) (e2 : y' = y) (e3 : z' = z) : Q (.ref D) { s with heap := h', toks := tk' } := by
  subst e1 e2 e3
  exact hret _ _ _ F F'.keep ⟨D, t1, t2, t3, n, rfl, (N' _ hm).2.2, (N' _ hm).1⟩
theorem bne_t {a b : Str} (h : (a != b) = true) : a ≠ b := by simpa using h
theorem bne_f {a b : Str} (h : (a != b) = false) : a = b := by simpa using h
end
end Mine
end
section
open PySem PySem.W PySem.Calls PyProof.Rows
set_option maxRecDepth 100000
set_option maxHeartbeats 8000000
namespace Mine
theorem strs_last {us : List Value} {ss : List Str} (h : StrsAre us ss) (hne : 0 < ss.length) : ∃ y t, us = us.dropLast ++ [.str y t] ∧ StrsAre us.dropLast ss.dropLast ∧ y = ss.getD (ss.length - 1) Str.empty := by
  induction h with
  | nil => cases hne
  | @cons y t vs ys r ih =>
    cases r with
    | nil => exact ⟨y, t, rfl, .nil, rfl⟩
    | @cons z u vs' ys' r' =>
      obtain ⟨y', t', e, hS, hy⟩ := ih (Nat.succ_pos _)
      refine ⟨y', t', ?_, ?_, hy⟩
      · rw [List.dropLast_cons_cons, List.cons_append, ← e]
      · rw [List.dropLast_cons_cons, List.dropLast_cons_cons]
        exact .cons y t hS
section
variable {prog : Program} {w : World} {A : Around} {E : Value → Shared → Prop} {s : Shared} {h₀ : Heap} {L D : Addr} {m : Str → Option Value} {news news' : List (Addr × Obj)} {us : List Value} {ss : List Str} {n : Nat} {Q : Value → Shared → Prop}
theorem strs_split {x y : Str} {t u : Tok} (hF : Fr h₀ L s.heap m) (hN : News h₀ L s.heap news) (hy : (y.length == 0) = false)
    (h : ∀ D us h' k, Fr h₀ L h' m → News h₀ L h' ((D, listOf (List.toArray us) 0) :: news) → (∀ p ∈ news, p.1 < D) → StrsAre us (Txt.split x y) → Q (.ref D) { s with heap := h', toks := k }) (hsz : x.length + 2 ≤ sizeLine) :
    wpAny (model prog w) A (call (.builtin "str.split") [.str x t, .str y u]) Q E s :=
  KSpl.split1 hF hN hy (fun D l h' k e hS F N l1 => h D _ h' k F N l1 (e ▸ hS)) hsz
theorem strs_append {y : Str} {t : Tok} (F : Fr h₀ L s.heap m) (N : News h₀ L s.heap news) (hi : StrsAre us ss) (U : Upd D (listOf us.toArray n) (listOf (List.toArray (us ++ [Value.str y t])) (n + 1)) news news') (hz : ss.length ≤ sizeLine)
    (h : ∀ h', Fr h₀ L h' m → News h₀ L h' news' → StrsAre (us ++ [Value.str y t]) (ss ++ [y]) → Q .none { s with heap := h' }) : wpAny (model prog w) A (call (.builtin "list.append") [.ref D, .str y t]) Q E s := by
  refine append_K (hsz := by rw [List.size_toArray, strs_len hi]; exact hz) F N (its := us.toArray) (n := n) (news' := news') ?_ fun h' F' N' => h h' F' N' (hi.append' (.cons _ _ .nil))
  rw [List.push_toArray]
  exact U
theorem strs_pop (F : Fr h₀ L s.heap m) (N : News h₀ L s.heap news) (hi : StrsAre us ss) (U : Upd D (listOf us.toArray n) (listOf (List.toArray us.dropLast) (n + 1)) news news') (hne : 0 < ss.length) (hz : ss.length ≤ sizeLine)
    (h : ∀ h' t, Fr h₀ L h' m → News h₀ L h' news' → StrsAre us.dropLast ss.dropLast → Q (.str (ss.getD (ss.length - 1) Str.empty) t) { s with heap := h' }) : wpAny (model prog w) A (call (.builtin "list.pop") [.ref D]) Q E s := by
  obtain ⟨y, t, h1, h3, rfl⟩ := strs_last hi hne
  refine kl_pop F N (p := us.dropLast) (y := .str (ss.getD (ss.length - 1) Str.empty) t) ?_ U (by simpa [strs_len hi] using hz) fun h' F' N' => h h' t F' N' h3
  have e := kpa_last (.str (ss.getD (ss.length - 1) Str.empty) t) us.dropLast
  rw [← h1] at e
  simpa using e
theorem strs_append2 {y : Str} {t : Tok} (F : Fr h₀ L s.heap m) (N : News h₀ L s.heap news) (U : Upd D (listOf us.toArray n) (listOf (List.toArray (us ++ [Value.str y t])) (n + 1)) news news') (hi : StrsAre us ss) (hz : ss.length ≤ sizeLine)
    (h : ∀ h', Fr h₀ L h' m → News h₀ L h' news' → StrsAre (us ++ [Value.str y t]) (ss ++ [y]) → Q .none { s with heap := h' }) : wpAny (model prog w) A (call (.builtin "list.append") [.ref D, .str y t]) Q E s := strs_append F N hi U hz h
theorem strs_pop2 (F : Fr h₀ L s.heap m) (N : News h₀ L s.heap news) (U : Upd D (listOf us.toArray n) (listOf (List.toArray us.dropLast) (n + 1)) news news') (hi : StrsAre us ss) (hne : 0 < ss.length) (hz : ss.length ≤ sizeLine)
    (h : ∀ h' t, Fr h₀ L h' m → News h₀ L h' news' → StrsAre us.dropLast ss.dropLast → Q (.str (ss.getD (ss.length - 1) Str.empty) t) { s with heap := h' }) : wpAny (model prog w) A (call (.builtin "list.pop") [.ref D]) Q E s := strs_pop F N hi U hne hz h
end
theorem tailT_len (x : Str) : (tailT x).length ≤ x.length := by
  unfold tailT
  split
  · exact Nat.le_refl _
  · split
    · exact Txt.slice_le _ _ _
    · exact Txt.slice_le _ _ _
theorem rootT_len (x : Str) : (rootT x).length ≤ x.length + 1 := by
  have h1 : (Str.ofString "/").length = 1 := by decide +kernel
  have h0 : (Str.ofString "").length = 0 := by decide +kernel
  unfold rootT
  split
  · omega
  · split
    · omega
    · have := Txt.slice_le x none (some 2); omega
/-- one step of normpath -/
def normStep (r : Str) (acc : List Str) (c : Str) : List Str :=
  if c.length = 0 ∨ c = Str.ofString "." then acc
  else if c ≠ Str.ofString ".." ∨ (r.length = 0 ∧ acc = []) ∨ (acc ≠ [] ∧ acc.getD (acc.length - 1) Str.empty = Str.ofString "..") then acc ++ [c]
  else acc.dropLast
/-- what normpath makes of a text -/
def normT (x : Str) : Str :=
  if x.length = 0 then Str.ofString "."
  else
    let p := rootT x ++ Txt.join (Str.ofString "/") ((Txt.split (tailT x) (Str.ofString "/")).foldl (normStep (rootT x)) [])
    if p.length = 0 then Str.ofString "." else p
theorem normStep_wt (r : Str) (acc : List Str) (c : Str) : wt (normStep r acc c) ≤ wt acc + (c.length + 1) := by
  unfold normStep
  split
  · omega
  · split
    · rw [wt_append, wt_cons, wt_nil]; omega
    · have := wt_init acc; omega
theorem norm_fold_wt (r : Str) : ∀ (l : List Str) (acc : List Str), wt (l.foldl (normStep r) acc) ≤ wt acc + wt l
  | [], acc => by rw [wt_nil]; exact Nat.le_refl _
  | c :: l, acc => by
    rw [List.foldl_cons, wt_cons]
    have h1 := norm_fold_wt r l (normStep r acc c)
    have h2 := normStep_wt r acc c
    omega
theorem norm_take (r : Str) (rs : List Str) (i : Nat) (p : Str) (h : rs[i]? = some p) (st : List Str) : (rs.take (i + 1)).foldl (normStep r) st = normStep r ((rs.take i).foldl (normStep r) st) p := by
  rw [List.take_add_one, h]; simp
theorem str_join_len (y : Nat) (sep : Str) (hs : sep.length = 1) : ∀ l : List Str, l ≠ [] → wt l = (Str.join sep l).length + 1
  | [x], _ => by rw [wt_cons, wt_nil]; rfl
  | x :: z :: l, _ => by
    rw [wt_cons, str_join_len y sep hs (z :: l) (by simp)]
    show _ = (x ++ sep ++ Str.join sep (z :: l)).length + 1
    rw [Str.length_append, Str.length_append]
    omega
theorem partsFrom_ne' (x y : Str) : Txt.split x y ≠ [] := by
  unfold Txt.split
  split
  · simp
  · split
    · simp
    · rw [StrLaws.partsBetween_eq]
      obtain ⟨p, r, e⟩ := StrLaws.partsFrom_ne x y.length 0 (Builtin.Str.occurrences x y 0 x.length (x.length + 1))
      rw [e]; simp
theorem split_wt (x : Str) : wt (Txt.split x (Str.ofString "/")) = x.length + 1 := by
  rw [str_join_len 0 (Str.ofString "/") (by decide +kernel) _ (partsFrom_ne' _ _), StrLaws.join_split]
end Mine
end
section
open PySem PySem.W PySem.Calls PyProof.Rows
set_option maxRecDepth 100000
set_option maxHeartbeats 8000000
namespace Mine
theorem strs_truthL {prog : Program} {w : World} {A : Around} {E : Value → Shared → Prop} {s : Shared} {l : Addr} {us : List Value} {ss : List Str} {Q : Bool → Shared → Prop} (hl : s.heap.IsList l us.toArray) (hi : StrsAre us ss) (hz : ss.length ≤ sizeLine) (h : ∀ tk, Q (decide (0 < ss.length)) { s with toks := tk }) : wpAny (model prog w) A (truthy (.ref l)) Q E s := by
  refine strs_truth hl hi hz fun tk => ?_
  have e : decide (ss ≠ []) = decide (0 < ss.length) := by
    cases ss <;> simp
  rw [e]; exact h tk
theorem pick_led2 {h₀ h : Heap} {L : Addr} {m : Str → Option Value} {news : List (Addr × Obj)} {x : Str} {o : Obj} {D l : Addr} (_F : Fr h₀ L h m) (N : News h₀ L h news) (hm : m x = some (.ref D)) (hn : (D, o) ∈ news) (hne : D ≠ l) :
    ∃ D, m x = some (.ref D) ∧ News h₀ L h [(D, o)] ∧ D ≠ l := ⟨D, hm, news_sub N fun p hp => by rw [List.mem_singleton.mp hp]; exact hn, hne⟩
theorem truthT {prog : Program} {w : World} {A : Around} {E : Value → Shared → Prop} {s : Shared} {x : Str} {t : Tok} {K : Nat} {Q : Bool → Shared → Prop} (hl : x.length ≤ K) (hK : K ≤ 16777216) (h : ∀ tk, Q ((x.length : Int) != 0) { s with toks := tk }) : wpAny (model prog w) A (PySem.truthy (.str x t)) Q E s :=
  SBL.truthy (by omega) (h _)
theorem strs_item_last {prog : Program} {w : World} {A : Around} {E : Value → Shared → Prop} {s : Shared} {value slice : PySem.Expr} {a : Addr} {us : List Value} {ss : List Str} {u : Tok} {Q : Value → Shared → Prop} (hl : s.heap.IsList a us.toArray) (hi : StrsAre us ss)
    (hk : 0 < ss.length) (h : ∀ t', Q (.str (ss.getD (-1 + (ss.length : Int)).toNat Str.empty) t') s)
    (hs : subscripted slice false (.ref a) (.int (-1) u) = operate [.ref a, .int (-1) u] (getItem (.ref a) (.int (-1) u)) := by with_unfolding_all rfl) :
    wpAny (model prog w) A (subscriptTail value slice (.ref a) (.int (-1) u)) Q E s := by
  have hsz : us.toArray.size = ss.length := by simp [strs_len hi]
  have hlt : (-1 + (ss.length : Int)).toNat < ss.length := by omega
  have e : ss[(-1 + (ss.length : Int)).toNat]? = some (ss.getD (-1 + (ss.length : Int)).toNat Str.empty) := by simp [List.getD, hlt]
  obtain ⟨t, hx⟩ := hi.at e
  exact subscriptTail_builtinR hl.typeIs slot_list_getitem.lookup (wpAny_getItem_list_neg (Q := fun r s' => r = _ ∧ Q r s') hl (by decide) (by rw [hsz]; omega) (by decide) (by rw [hsz]; simpa using hx) ⟨rfl, h t⟩) hs
theorem len_join {ss : List Str} {B : Nat} (h : wt ss ≤ B) : (Txt.join (Str.ofString "/") ss).length ≤ B := by
  show (Builtin.Str.glued (Str.ofString "/") ss).length ≤ B
  rw [StrLaws.glued_eq_join]
  by_cases e : ss = []
  · subst e; exact Nat.zero_le _
  · have := str_join_len 0 (Str.ofString "/") (by decide +kernel) ss e
    omega
section
variable {prog : Program} {w : World} {A : Around} {E : Value → Shared → Prop} {s : Shared} {env : Env} {h₀ : Heap} {x : Str} {body : List Stmt} {Q : Flow → Shared → Prop}
/-- a loop over a list, beside a list K that its turns change -/
theorem iter_valsK {l K : Addr} {vs : List Value} {m₀ : Str → Option Value} {news : List (Addr × Obj)} {oK : Obj} {xK : Str} (J : Addr → Nat → (Str → Option Value) → Obj → Prop)
    (hh : A.handled = none) (hl : s.heap.IsList l vs.toArray) (hL : l ≠ env.locals) (F : Fr h₀ env.locals s.heap m₀) (N : News h₀ env.locals s.heap news) (hK : m₀ xK = some (.ref K)) (hKm : (K, oK) ∈ news) (hne : K ≠ l) (hj : J K 0 m₀ oK)
    (turn : ∀ K i v m₁ o₁ h tk own I, vs[i]? = some v → K ≠ I → (∃ o, (I, o) ∈ own) → OwnOff own [K] → h.IsList l vs.toArray → J K i m₁ o₁ → Fr h₀ env.locals h (fun y => if y = x then some v else m₁ y) → News h₀ env.locals h ((K, o₁) :: own) →
      wpAny (model prog w) A (execs body env) (VPost h₀ env.locals (fun m nx => ∃ o, nx = [(K, o)] ∧ J K (i + 1) m o) own I { s with heap := h, toks := tk } Q) E { s with heap := h, toks := tk })
    (done : ∀ K m₁ o₁ h tk, J K vs.length m₁ o₁ → Fr h₀ env.locals h m₁ → News h₀ env.locals h [(K, o₁)] → Q .next { s with heap := h, toks := tk }) :
    wpAny (model prog w) A (pyIter (.ref l)) (fun it s₂ => LoopAtV prog w A h₀ env x body Q E it s₂) E s := by
  have N0 : News h₀ env.locals s.heap [(K, oK)] := news_sub N fun p hp => by rw [List.mem_singleton.mp hp]; exact hKm
  have _ := hK
  refine iter_vals2 (fun i m nx => ∃ o, nx = [(K, o)] ∧ J K i m o) hh hl hL F N0 ⟨oK, rfl, hj⟩ ?_ ?_
  · rintro i v m₁ news₁ h tk own I hv hoff hI hown hlI ⟨o₁, rfl, hJ⟩ F₁ N₁
    have hKI : K ≠ I := hoff (K, o₁) (List.mem_singleton.mpr rfl)
    refine turn K i v m₁ o₁ h tk own I hv hKI hI (fun p hp b hb => ?_) hlI hJ F₁ N₁
    rw [List.mem_singleton.mp hb]
    rcases hown p hp with e | e
    · rw [e]; exact Ne.symm hKI
    · rw [e]; exact Ne.symm hne
  · rintro m₁ news₁ h tk ⟨o₁, rfl, hJ⟩ F₁ N₁
    exact done K m₁ o₁ h tk hJ F₁ N₁
end
end Mine
end
section
open PySem PySem.W PySem.Calls PyProof.Rows
set_option maxRecDepth 100000
set_option maxHeartbeats 8000000
namespace Mine
open Sem (wp)
section
variable {α : Type} {prog : Program} {w : World} {A : Around} {E : Value → Shared → Prop} {s : Shared}
structure Miss (h h' : Heap) (e : Addr) : Prop where
  keeps : ∀ b ob, h.get? b = some ob → h'.get? b = some ob
  there : ∃ vs, h'.get? e = some { cls := .type "AttributeError", data := .fields vs }
theorem type_list : typeOf (.type "list") = pure (.type "type") := by kernel_rfl
theorem raise_attrStr {msg : Str} {Q : α → Shared → Prop} (hh : A.handled = none)
    (h : ∀ h' tk e, Miss s.heap h' e → E (.ref e) { s with heap := h', toks := tk }) (hm : msg.length ≤ sizeLine := by size_fits) :
    wpAny (model prog w) A (raiseErrorStr "AttributeError" msg : Sem α) Q E s := by
  unfold raiseErrorStr
  refine wpAny_bind (wpAny_mkStr (wpAny_bind ?_) hm)
  unfold newExc newTuple
  refine wpAny_bind (wpAny_newObj_type ?_ (by size_fits))
  refine wpAny_bind (m := firstArgMember _ _) (wpAny_of_eq (a := Value.none) (by simp only [firstArgMember, attrError_no_first]; rfl) ?_)
  rw [ownMembersOf_AttributeError]
  refine wpAny_newObj_type ?_ (by size_fits)
  obtain ⟨hp, g, d, tk, os⟩ := s
  unfold raiseNew
  refine wpAny_bind (wpAny_handled ?_)
  rw [hh]
  first
    | refine wpAny_throw ?_
    | refine wpAny_bind (wpAny_pure (wpAny_throw ?_))
  dsimp only
  refine h _ _ _ ⟨fun b ob hb => Heap.get?_push_of_some _ (Heap.get?_push_of_some _ hb), _, Heap.get?_push_size _ rfl⟩
theorem list_opaque : opaqueClassAbove (.type "list") = pure none := by kernel_rfl
theorem list_type : typeOf (.type "list") = pure (.type "type") := by kernel_rfl
theorem type_fspath : typeLookup (.type "type") "__fspath__" = pure none := by rw [typeLookup_type, builtinLookup_eq_fast]; kernel_rfl
theorem list_fspath : typeLookup (.type "list") "__fspath__" = pure none := by rw [typeLookup_type, builtinLookup_eq_fast]; kernel_rfl
theorem list_name : typeNameCut 100 (.type "list") = pure "list" := by kernel_rfl
theorem type_getattr : typeLookup (.type "type") "__getattr__" = pure none := by rw [typeLookup_type, builtinLookup_eq_fast]; kernel_rfl
theorem meets_miss (u : Tok) : Meets (Builtin.«type.__getattribute__» ⟨[.type "list", .str "__fspath__" u], []⟩) (fun A R s => A.handled = none ∧ ∀ h' tk e, Miss s.heap h' e → R (.error (.ref e)) { s with heap := h', toks := tk }) :=
  Meets.of_wp fun prog w A R s hs => by
    obtain ⟨hp, g, d, tk, os⟩ := s
    unfold Builtin.«type.__getattribute__»
    have f1 := list_opaque
    have f2 := list_type
    have f3 := type_fspath
    have f4 := list_fspath
    have f5 := list_name
    repeat (any_goals (first | assumption | (rw [f1]) | (rw [f2]) | (rw [f3]) | (rw [f4]) | (rw [f5]) | wp_step))
    unfold raiseNew
    refine wpAny_bind (wpAny_handled ?_)
    rw [show (A.in1).handled = none from hs.1]
    first
      | refine wpAny_throw ?_
      | refine wpAny_bind (wpAny_pure (wpAny_throw ?_))
    exact hs.2 _ _ _ ⟨fun b ob hb => Heap.get?_push_of_some _ (Heap.get?_push_of_some _ hb), _, Heap.get?_push_size _ rfl⟩
theorem args_getattr3 (a b c : Value) : argsOk "getattr" ⟨[a, b, c], []⟩ := by unfold argsOk; kernel_rfl
theorem getattr_miss {u : Tok} {Q : Value → Shared → Prop} (hh : A.handled = none) (h : ∀ h' tk, (∀ b o, s.heap.get? b = some o → h'.get? b = some o) → Q .none { s with heap := h', toks := tk }) :
    wpAny (model prog w) A (call (.builtin "getattr") [.type "list", .str "__fspath__" u, .none]) Q E s := by
  refine Calls.call_function_entry KB.kind_getattr KB.plain_getattr KB.entry_getattr (args_getattr3 _ _ _) ?_
  unfold Builtin.«getattr»
  refine wpAny_bind (wpAny_of_eq (a := [.type "list", .str "__fspath__" u, .none]) (by first | rfl | kernel_rfl) ?_)
  dsimp only
  refine wpAny_bind (wpAny_of_eq (a := ()) (by first | rfl | kernel_rfl) ?_)
  obtain ⟨hp, g, d, tk, os⟩ := s
  have f2 := list_type
  have f3 := KF.slot_tga.lookup
  have f4 := KF.slot_tga.bind (.type "list")
  have f5 := type_getattr
  have f6 := sub_AttributeError
  unfold getAttrBy? getAttrBy
  repeat (any_goals (first | assumption | (rw [f2]) | (rw [f3]) | (rw [f4]) | (rw [f5]) | ((with_reducible show wpAny _ _ (call (Value.builtin "type.__getattribute__") _ _) _ _ _); refine call_meets KF.slot_tga list_type KF.entry_tga (KF.args_tga _ _) (meets_miss _) ⟨hh, fun h' tk e hx => ?_⟩) | wp_step))
  obtain ⟨vs, he⟩ := hx.there
  show wpAny _ _ (getattributeRaised _ _ _ _ _ _ _) _ _ _
  unfold getattributeRaised
  repeat (any_goals (first | assumption | (rw [f5]) | wp_step))
  exact ⟨_, rfl, h _ _ hx.keeps⟩
theorem fr_grow {h₀ h h' : Heap} {L : Addr} {m : Str → Option Value} (F : Fr h₀ L h m) (k : ∀ b o, h.get? b = some o → h'.get? b = some o) : Fr h₀ L h' m := F.keeps k
theorem getattr_N {u : Tok} {Q : Value → Shared → Prop} {h₀ : Heap} {L : Addr} {m : Str → Option Value} {news : List (Addr × Obj)} (F : Fr h₀ L s.heap m) (N : News h₀ L s.heap news) (hh : A.handled = none)
    (h : ∀ h' tk, Fr h₀ L h' m → News h₀ L h' news → Q .none { s with heap := h', toks := tk }) :
    wpAny (model prog w) A (call (.builtin "getattr") [.type "list", .str (Str.ofString "__fspath__") u, .none]) Q E s :=
  getattr_miss hh fun h' tk k => h h' tk (F.keeps k) (N.grown k)
end
end Mine
end
section
open PySem PySem.W PySem.Calls PyProof.Rows
set_option maxRecDepth 100000
set_option maxHeartbeats 8000000
namespace Mine
section
variable {prog : Program} {w : World} {A : Around} {E : Value → Shared → Prop} {s : Shared} {value slice : PySem.Expr} {a : Addr} {us : List Value} {ss : List Str} {u : Tok} {Q : Value → Shared → Prop}
theorem lit_item {vs : List Value} {k : Int} {v : Value} (hl : s.heap.IsList a vs.toArray) (h0 : 0 ≤ k) (hhi : k < 2 ^ 63) (hx : vs[k.toNat]? = some v) (h : Q v s)
    (hs : subscripted slice false (.ref a) (.int k u) = operate [.ref a, .int k u] (getItem (.ref a) (.int k u)) := by with_unfolding_all rfl) :
    wpAny (model prog w) A (subscriptTail value slice (.ref a) (.int k u)) Q E s :=
  subscriptTail_builtinR hl.typeIs slot_list_getitem.lookup (wpAny_getItem_list (Q := fun r s' => r = v ∧ Q r s') hl h0 hhi (by simpa using hx) ⟨rfl, h⟩) hs
theorem strs_item {k : Int} (hl : s.heap.IsList a us.toArray) (hi : StrsAre us ss) (h0 : 0 ≤ k) (hhi : k < 2 ^ 63) (hk : k < (ss.length : Int)) (h : ∀ t', Q (.str (ss.getD k.toNat Str.empty) t') s)
    (hs : subscripted slice false (.ref a) (.int k u) = operate [.ref a, .int k u] (getItem (.ref a) (.int k u)) := by with_unfolding_all rfl) :
    wpAny (model prog w) A (subscriptTail value slice (.ref a) (.int k u)) Q E s := by
  have hlt : k.toNat < ss.length := by omega
  have e : ss[k.toNat]? = some (ss.getD k.toNat Str.empty) := by simp [List.getD, hlt]
  obtain ⟨t, hx⟩ := hi.at e
  exact lit_item hl h0 hhi hx (h t) hs
theorem strs_lenR (hl : s.heap.IsList a us.toArray) (hi : StrsAre us ss) (hz : ss.length ≤ 16777216) (h : ∀ t tk, Q (.int ss.length t) { s with toks := tk }) : wpAny (model prog w) A (call (.builtin "len") [.ref a]) Q E s :=
  len_strsA hl hi (by omega) (h _ _)
end
end Mine
end
section
open PySem PySem.W PySem.Calls PyProof.Rows
set_option maxRecDepth 100000
set_option maxHeartbeats 8000000
namespace Mine
/-- a call of the def at f upon vs from the law's own frame, under the ledger news: it hands back the text x (an exception may fly and be caught within) -/
def RS (w : World) (n : Nat) (f : Addr) (vs : List Value) (news : List (Addr × Obj)) (x : Str) : Prop :=
  ∀ (mean : ExcName → Option Value) (mg mb : Str → Option Value) (dp un : Nat) (gd : Option (List Code)) (cn : Str) (cs : Scope) (a : Addr) (ccd : Value) (A₀ : Around) (base h₀ : Heap) (L : Addr) (m : Str → Option Value) (s : Shared) (Q E : Value → Shared → Prop),
    Below A₀ base [] h₀ → (hd.heap_1 w.params).In base → Top hd.view_39 (looseW hd.view_39 [Str.ofString "_safe_string"]) mean mg mb base → Fr h₀ L s.heap m → (hd.heap_1 w.params).In h₀ → News h₀ L s.heap news → Top hd.view_39 (looseW hd.view_39 [Str.ofString "_safe_string"]) mean mg mb h₀ → cs.kind = .function → dp + n < recursionLimit → un + 8 * n < cLine →
    (∀ t h' tk', Fr h₀ L h' m → News h₀ L h' news → Q (.str x t) { s with heap := h', toks := tk' }) →
    wpAny (model PySem.Challenge.rw_in0025_01.row.prog w) (ktrTop dp un gd cn cs L a ccd [] []) (call (.ref f) vs) Q E s
theorem rs_end {h₀ : Heap} {L : Addr} {m : Str → Option Value} {s : Shared} {Q : Value → Shared → Prop} {news news' : List (Addr × Obj)} {x y : Str} {t : Tok} {h' : Heap} {tk' : Nat} (hret : ∀ t h' tk', Fr h₀ L h' m → News h₀ L h' news → Q (.str x t) { s with heap := h', toks := tk' })
    (F : Fr h₀ L h' m) (N : News h₀ L h' news') (hs : ∀ p ∈ news, p ∈ news') (e : y = x) : Q (.str y t) { s with heap := h', toks := tk' } := by
  subst e
  exact hret t h' tk' F fun p hp => N p (hs p hp)
end Mine
end
section
open PySem PySem.W PySem.Calls PyProof.Rows
set_option maxRecDepth 100000
set_option maxHeartbeats 8000000
namespace Mine
open Sem (wp)
theorem fun_slot : Slot "function" "__getattribute__" "object.__getattribute__" :=
  .of (owner := "object") (n := "__getattribute__") (by rw [typeLookup_type, builtinLookup_eq_fast]; kernel_rfl) (by decide +kernel) (by decide +kernel) (by decide +kernel)
    (by first | exact .inl (by decide +kernel) | exact .inr (by decide +kernel)) (by rw [isSubtype_type]; kernel_rfl)
theorem fun_entry : entryFor table "function.__name__" = some Builtin.«function.__name__» := entryFor_of_tree (by kernel_rfl)
theorem fun_name : typeLookup (.type "function") "__name__" = pure (some (.builtin "function.__name__")) := by rw [typeLookup_type, builtinLookup_eq_fast]; kernel_rfl
theorem fun_type : typeOf (.builtin "function.__name__") = pure (.type "getset_descriptor") := by show builtinType _ = _; rw [builtinType_eq_fast]; kernel_rfl
theorem fun_owner : Builtin.Getset_descriptor.descrOwnerAndName "function.__name__" = ("function", "__name__") := by decide +kernel
theorem fun_hook : typeLookup (.type "function") "__getattr__" = pure none := by rw [typeLookup_type, builtinLookup_eq_fast]; kernel_rfl
theorem fun_ownerty : (".".intercalate ("function.__name__".cutAt '.').dropLast) = "function" := by decide +kernel
theorem fun_sub : isSubtype (.type "function") (.type (".".intercalate ("function.__name__".cutAt '.').dropLast)) = pure true := by
  rw [fun_ownerty, isSubtype_type]; kernel_rfl
section
variable {prog : Program} {w : World} {A : Around} {E : Value → Shared → Prop} {h : Heap} {g : Array GenState} {d : Drawn} {t : Nat} {os : OsState} {a : Addr} {o : Obj} {fd : FuncData}
theorem fun_get {R : Result → Shared → Prop} (hx : h.get? a = some o) (hc : o.cls = .type "function") (hd : o.data = .func fd) (hz : fd.name.length ≤ sizeLine) (hq : ∀ tk, R (.ok (.ret (.str fd.name tk))) ⟨h, g, d, t + 1, os⟩) :
    codeAny (model prog w) A (.call (.builtin "getset_descriptor.__get__") ⟨[.builtin "function.__name__", .ref a, .type "function"], []⟩) R ⟨h, g, d, t, os⟩ := by
  have hT : (⟨h, g, d, t, os⟩ : Shared).TypeIs (.ref a) "function" := ⟨_, hx, hc⟩
  have hT5 : (⟨h, g, d, t, os⟩ : Shared).TypeIs (.builtin "function.__name__") "getset_descriptor" := fun_type
  have f8 := fun_sub
  refine codeAny_call_builtin F.slot_gs_get.plain F.entry_gs_get (F.slot_gs_get.check _ _ _ _ _ _ _ _ hT5 (F.args_gs_get _ _ _) ?_)
  repeat (any_goals (first | assumption | wp_step))
  refine ⟨Code.quiet_builtin _ (by decide +kernel), codeAny_builtin fun_entry ?_⟩
  unfold Builtin.«function.__name__»
  repeat (any_goals (first | assumption | wp_step))
  rw [hd]
  refine wpAny_pure ?_
  unfold retStr
  exact wpAny_bind (wpAny_mkStr (wpAny_pure (hq _)) hz)
theorem fun_ga {tk : Tok} {Q : Fin → Shared → Prop} (hx : h.get? a = some o) (hc : o.cls = .type "function") (hd : o.data = .func fd) (hz : fd.name.length ≤ sizeLine) (hq : ∀ tk u, Q (.done (.ret (.str fd.name tk))) ⟨h, g, d, u, os⟩) :
    wpAny (model prog w) A (Builtin.«object.__getattribute__» ⟨[.ref a, .str "__name__" tk], []⟩) Q E ⟨h, g, d, t, os⟩ := by
  obtain ⟨oc, od, o3, o4⟩ := o
  cases hc
  cases hd
  have hT : ∀ t, (⟨h, g, d, t, os⟩ : Shared).TypeIs (.ref a) "function" := fun _ => ⟨_, hx, rfl⟩
  have f4 := fun_name
  have f5 := fun_type
  have f6 := F.slot_gs_get.lookup
  have f7 := F.slot_gs_set.lookup
  repeat (any_goals (first | assumption | exact hT _ | wp_step))
  refine fun_get hx rfl rfl hz fun tk => ?_
  repeat (any_goals (first | assumption | exact hq _ _ | wp_step))
theorem fun_attr {Q : Value → Shared → Prop} {s : Shared} (hx : s.heap.get? a = some o) (hc : o.cls = .type "function") (hd : o.data = .func fd) (hz : fd.name.length ≤ sizeLine) (hq : ∀ tk u, Q (.str fd.name tk) { s with toks := u }) :
    wpAny (model prog w) A (getAttr (.ref a) (Str.ofString "__name__") true) Q E s := by
  obtain ⟨h, g, d, t, os⟩ := s
  obtain ⟨oc, od, o3, o4⟩ := o
  cases hc
  cases hd
  have hT : ∀ t, (⟨h, g, d, t, os⟩ : Shared).TypeIs (.ref a) "function" := fun _ => ⟨_, hx, rfl⟩
  have f3 := fun_slot.lookup
  have f4 := fun_slot.bind (.ref a)
  have f5 := fun_hook
  unfold getAttr getAttrBy
  repeat (any_goals (first | assumption | exact hT _ | ((with_reducible show wpAny _ _ (call (Value.builtin "object.__getattribute__") _ _) _ _ _); refine wpAny_call (codeAny_call_builtin fun_slot.plain F.entry_object_getattribute (fun_slot.check _ _ _ _ _ _ _ _ (hT _) (F.args_object_getattribute_2 _ _) (fun_ga hx rfl rfl hz fun tk u => ?_)))) | wp_step))
  exact hq _ _
theorem fun_attrK {K : Frag} {q : Str} {Q : Value → Shared → Prop} {s : Shared} (X : K.In s.heap) (e : K.lookup a = some o) (hc : o.cls = .type "function") (hd : o.data = .func fd) (hn : fd.name = q) (hz : q.length ≤ sizeLine) (hq : ∀ tk u, Q (.str q tk) { s with toks := u }) :
    wpAny (model prog w) A (getAttr (.ref a) (Str.ofString "__name__") true) Q E s := by
  subst hn
  exact fun_attr (X _ _ e) hc hd hz hq
end
theorem safe_len (a b c d e f : Str) (ha : a.length ≤ 20) (hb : b.length ≤ 20) (hc : c.length ≤ 60000) (hd : d.length ≤ 20) (he : e.length ≤ 20) (hf : f.length ≤ 20) : (a ++ b ++ c ++ d ++ e ++ f).length ≤ sizeLine := by
  rw [strLen_append, strLen_append, strLen_append, strLen_append, strLen_append]
  rw [sizeLine_eq]
  omega
end Mine
end
namespace Mine
open PySem PySem.W PySem.Calls PyProof.Rows
local macro_rules | `(tactic| walk_at $s:str) => do
  if ["strs", "mem", "oks", "weighs", "fits", "len", "cut", "pos", "alt", "steps", "lst", "safe", "filt end"].contains s.getString then Lean.Macro.throwUnsupported
  `(tactic| k_extra $s)
local macro_rules | `(tactic| walk_at "ro in") => `(tactic| (refine' ro_enter ?k1 ?k2 ?k3 ?k5 ?kA ?kF ?kK ?k6 ?k7 ?k8 ?k9 ?kB ?_ ?c2 ?c3 ?c4 ?c5; (case kA => exact rfl); (case kF => exact rfl); (case kK => assumption); (case k1 => k_asm); (case k2 => k_asm); (case k3 => k_asm); (case k5 => k_asm); (case k6 => k_is); (case k7 => k_is); (case k8 => ktr_room); (case k9 => exact BindsTo.of_eq rfl); (case c5 => decide); (case kB => exact locs rfl); (case c2 => exact rfl); (case c3 => exact rfl); (case c4 => exact rfl); k_whole; intro L' h' F' N' B' X' T'; (try dsimp only); (try k_fold)))
section
set_option maxRecDepth 100000
set_option maxHeartbeats 8000000
set_option linter.unusedVariables false
theorem fresh21 : True := by
  w_top off
  trivial
theorem words_T2_0 : True := by
  w_top off
  k_with_none
  k_with "call builtin:issubclass" => (k_here; k_dflt (refine' call_isn md_str (by exact (News.get (by k_asm) (by k_mem))) sub_str ?_; k_whole); intro tk₉; (try dsimp only [List.any]))
  trivial
theorem sep_ok (w : World) (x : Str) (t : Tok) : RO w 1 116 [.str x t] NoPre (IsT (Str.ofString "/")) := by
  unfold RO
  k_fill
  intro mean mg mb dp un gd cn cs a ccd cl outer A₀ base h₀ L m s Q E B F X T hk hd hu hpre hret
  refine wpAny_call ?_
  k_dflt walk_at "ro in"
  k_steps
  all_goals (refine ro_endT hret (by assumption) (by assumption) ?_; rfl)
theorem fspath_ok (w : World) (x : Str) (t : Tok) : RO w 1 102 [.str x t] NoPre (IsT x) := by
  unfold RO
  k_fill
  intro mean mg mb dp un gd cn cs a ccd cl outer A₀ base h₀ L m s Q E B F X T hk hd hu hpre hret
  refine wpAny_call ?_
  k_dflt walk_at "ro in"
  k_steps
  all_goals (refine ro_endT hret (by assumption) (by assumption) ?_; rfl)

theorem words_T2_1 : True := by
  k_with "call ref" => (k_here; k_dflt (first
  | (refine' ro_useT (sep_ok _ _ _) (by k_asm) (by k_asm) (by k_asm) (by k_asm) (by k_asm) (by first | exact rfl | assumption) (by ktr_room) (by ktr_units) (by exact trivial) ?_; intro t₉ h₉ tk₉ F₉ N₉; (try k_sweep); (try dsimp only); (try k_fold))
  | (refine' ro_useT (fspath_ok _ _ _) (by k_asm) (by k_asm) (by k_asm) (by k_asm) (by k_asm) (by first | exact rfl | assumption) (by ktr_room) (by ktr_units) (by exact trivial) ?_; intro t₉ h₉ tk₉ F₉ N₉; (try k_sweep); (try dsimp only); (try k_fold))))
  trivial
theorem basename_ok (w : World) (x : Str) (t : Tok) (hx : x.length ≤ 60000) : RO w 3 137 [.str x t] NoPre (IsT (baseT x)) := by
  unfold RO
  k_fill
  intro mean mg mb dp un gd cn cs a ccd cl outer A₀ base h₀ L m s Q E B F X T hk hd hu hpre hret
  refine wpAny_call ?_
  k_dflt walk_at "ro in"
  k_steps
  all_goals (refine ro_endT hret (by assumption) (by assumption) ?_; rfl)
theorem dirname_ok (w : World) (x : Str) (t : Tok) (hx : x.length ≤ 60000) : RO w 3 144 [.str x t] NoPre (IsT (dirT x)) := by
  unfold RO
  k_fill
  intro mean mg mb dp un gd cn cs a ccd cl outer A₀ base h₀ L m s Q E B F X T hk hd hu hpre hret
  refine wpAny_call ?_
  k_dflt walk_at "ro in"
  k_steps
  all_goals (refine ro_endT hret (by assumption) (by assumption) ?_)
  · have h1 : ((headT x).length : Int) ≠ 0 := by assumption
    have h2 : (headT x != Txt.mul (Str.ofString "/") (headT x).length) = true := by assumption
    rw [dirT, if_pos ⟨by omega, bne_t h2⟩]; rfl
  · have h2 : (headT x != Txt.mul (Str.ofString "/") (headT x).length) = false := by assumption
    rw [dirT, if_neg (fun q => q.2 (bne_f h2))]; rfl
  · have h1 : ((headT x).length : Int) = 0 := by assumption
    rw [dirT, if_neg (fun q => q.1 (by omega))]; rfl
theorem splitroot_ok (w : World) (x : Str) (t : Tok) (hx : x.length ≤ 60000) : RO w 3 130 [.str x t] NoPre (IsT3 (Str.ofString "") (rootT x) (tailT x)) := by
  unfold RO
  k_fill
  intro mean mg mb dp un gd cn cs a ccd cl outer A₀ base h₀ L m s Q E B F X T hk hd hu hpre hret
  refine wpAny_call ?_
  k_dflt walk_at "ro in"
  k_steps
  · have h1 : (Txt.slice x none (some 1) != Str.ofString "/") = true := by assumption
    exact ro_end3 hret (by assumption) (by assumption) (by assumption) (by k_mem) rfl (by rw [rootT, if_pos (bne_t h1)]) (by rw [tailT, if_pos (bne_t h1)])
  · have h1 : (Txt.slice x none (some 1) != Str.ofString "/") = false := by assumption
    have h2 : (Txt.slice x (some 1) (some 2) != Str.ofString "/") = true := by assumption
    exact ro_end3 hret (by assumption) (by assumption) (by assumption) (by k_mem) rfl (by rw [rootT, if_neg (fun q => q (bne_f h1)), if_pos (.inl (bne_t h2))]) (by rw [tailT, if_neg (fun q => q (bne_f h1)), if_pos (.inl (bne_t h2))])
  · have h1 : (Txt.slice x none (some 1) != Str.ofString "/") = false := by assumption
    have h3 : (Txt.slice x (some 2) (some 3) == Str.ofString "/") = true := by assumption
    exact ro_end3 hret (by assumption) (by assumption) (by assumption) (by k_mem) rfl (by rw [rootT, if_neg (fun q => q (bne_f h1)), if_pos (.inr (eq_of_beq h3))]) (by rw [tailT, if_neg (fun q => q (bne_f h1)), if_pos (.inr (eq_of_beq h3))])
  · have h1 : (Txt.slice x none (some 1) != Str.ofString "/") = false := by assumption
    have h2 : (Txt.slice x (some 1) (some 2) != Str.ofString "/") = false := by assumption
    have h3 : (Txt.slice x (some 2) (some 3) == Str.ofString "/") = false := by assumption
    have hn : ¬ (Txt.slice x (some 1) (some 2) ≠ Str.ofString "/" ∨ Txt.slice x (some 2) (some 3) = Str.ofString "/") := fun q => q.elim (fun q => q (bne_f h2)) (beq_f h3)
    exact ro_end3 hret (by assumption) (by assumption) (by assumption) (by k_mem) rfl (by rw [rootT, if_neg (fun q => q (bne_f h1)), if_neg hn]) (by rw [tailT, if_neg (fun q => q (bne_f h1)), if_neg hn])
end
section
set_option maxRecDepth 100000
set_option maxHeartbeats 8000000
open Sem (wp)
theorem map_next : Slot "map" "__next__" "map.__next__" :=
  .of (owner := "map") (n := "__next__") (by rw [typeLookup_type, builtinLookup_eq_fast]; kernel_rfl) (by decide +kernel) (by decide +kernel) (by decide +kernel)
    (by first | exact .inl (by decide +kernel) | exact .inr (by decide +kernel)) (by rw [isSubtype_type]; kernel_rfl)
theorem map_iter : Slot "map" "__iter__" "map.__iter__" :=
  .of (owner := "map") (n := "__iter__") (by rw [typeLookup_type, builtinLookup_eq_fast]; kernel_rfl) (by decide +kernel) (by decide +kernel) (by decide +kernel)
    (by first | exact .inl (by decide +kernel) | exact .inr (by decide +kernel)) (by rw [isSubtype_type]; kernel_rfl)
theorem map_init : Slot "map" "__init__" "object.__init__" :=
  .of (owner := "object") (n := "__init__") (by rw [typeLookup_type, builtinLookup_eq_fast]; kernel_rfl) (by decide +kernel) (by decide +kernel) (by decide +kernel)
    (by first | exact .inl (by decide +kernel) | exact .inr (by decide +kernel)) (by rw [isSubtype_type]; kernel_rfl)
theorem map_entry_next : entryFor table "map.__next__" = some Builtin.«map.__next__» := entryFor_of_tree (by kernel_rfl)
theorem map_entry_new : entryFor table "map.__new__" = some Builtin.«map.__new__» := entryFor_of_tree (by kernel_rfl)
theorem map_entry_iter : entryFor table "map.__iter__" = some Builtin.«dict_keyiterator.__iter__» :=
  entryFor_alias (id' := "dict_keyiterator.__iter__") (by rw [fastTable_eq_tree]; kernel_rfl) (by first | rfl | decide +kernel | (unfold String.splitOn; simp +decide [String.splitOnAux])) (by rw [PySem.W.Fast.canonicalY_eq]; kernel_rfl) (by rw [fastTable_eq_tree]; kernel_rfl)
theorem map_mro : mroOf (.type "map") = pure [.type "map", .type "object"] := by rw [mroOf_type]; kernel_rfl
theorem map_new : typeLookup (.type "map") "__new__" = pure (some (.builtin "map.__new__")) := by rw [typeLookup_type, builtinLookup_eq_fast]; kernel_rfl
theorem map_called : TypeCalled "map" "map.__new__" "object.__init__" :=
  ⟨by decide +kernel, by decide +kernel, ⟨_, _, map_mro⟩, madeBy_type map_mro map_new (by decide +kernel), by decide +kernel, by rw [isSubtype_type]; kernel_rfl, map_init⟩
theorem map_typeCall (a b : Value) : checkTypeCall "map" ⟨[a, b], []⟩ = pure () := by rw [PySem.W.Fast.te11612656972197000677]; kernel_rfl
theorem map_newCall (a b : Value) : checkBuiltinCall "map.__new__" ⟨[.type "map", a, b], []⟩ = pure () := by rw [PySem.W.Fast.te10254737850608025244]; kernel_rfl
theorem map_sub : isSubtype (.type "map") (.type "map") = pure true := by rw [isSubtype_type]; kernel_rfl
theorem map_args_next (a : Value) : argsOk "map.__next__" ⟨[a], []⟩ := by unfold argsOk; rw [PySem.W.Fast.signatureY_eq]; kernel_rfl
theorem map_args_iter (a : Value) : argsOk "map.__iter__" ⟨[a], []⟩ := by unfold argsOk; rw [PySem.W.Fast.signatureY_eq]; kernel_rfl
theorem map_no_len : typeLookup (.type "map") "__len__" = pure none := by rw [typeLookup_type, builtinLookup_eq_fast]; kernel_rfl
theorem map_no_hint : typeLookup (.type "map") "__length_hint__" = pure none := by rw [typeLookup_type, builtinLookup_eq_fast]; kernel_rfl

abbrev mapObj (T : Addr) (f : Value) : Obj := { cls := .type "map", data := .fields #[.ref T, f] }
abbrev itsObj (I : Addr) : Obj := { cls := .type "tuple", data := .seq #[.ref I] }
abbrev itObj (l : Addr) : Obj := { cls := .type "list_iterator", data := .fields #[.ref l, .int 0 0] }

theorem meets_map (l : Addr) (f : Value) (xs : Array Value) :
    Meets (Builtin.«map.__new__» ⟨[.type "map", f, .ref l], []⟩) (fun _ R s => s.heap.IsList l xs ∧
      R (.ok (.ret (.ref ((s.heap.push (itObj l)).push (itsObj s.heap.objs.size)).objs.size))) { s with heap := ((s.heap.push (itObj l)).push (itsObj s.heap.objs.size)).push (mapObj (s.heap.push (itObj l)).objs.size f) }) :=
  .of_wp fun prog w A R s h => by
    obtain ⟨hp, g, d, tk, os⟩ := s; obtain ⟨hl, h⟩ := h
    have hsub := map_sub
    have hL : Heap.IsList (Shared.heap ⟨hp, g, d, tk, os⟩) l xs := hl
    wp_walk using wpAny_pyIter_list hL
    exact ⟨_, rfl, h⟩
section
variable {prog : Program} {w : World} {A : Around} {E : Value → Shared → Prop} {s : Shared}
theorem call_map {l : Addr} {f : Value} {xs : Array Value} {Q : Value → Shared → Prop} (hl : s.heap.IsList l xs)
    (h : ∀ M T I h', h'.get? M = some (mapObj T f) → h'.get? T = some (itsObj I) → h'.get? I = some (itObj l) → s.heap.get? M = none → s.heap.get? T = none → s.heap.get? I = none → M ≠ T → M ≠ I → T ≠ I →
      (∀ c o, s.heap.get? c = some o → h'.get? c = some o) → Q (.ref M) { s with heap := h' }) :
    wpAny (model prog w) A (call (.type "map") [f, .ref l]) Q E s := by
  refine callType_new map_called (by decide) (map_typeCall _ _) (map_newCall _ _) (fun obj => F.args_object_init_3 obj _ _) map_entry_new (meets_map l f xs) ⟨hl, ?_⟩
  have z1 : (s.heap.push (itObj l)).objs.size = s.heap.objs.size + 1 := Heap.size_push ..
  have z2 : ((s.heap.push (itObj l)).push (itsObj s.heap.objs.size)).objs.size = s.heap.objs.size + 2 := by rw [Heap.size_push, z1]
  have g3 : (((s.heap.push (itObj l)).push (itsObj s.heap.objs.size)).push (mapObj (s.heap.push (itObj l)).objs.size f)).get? _ = some _ := Heap.get?_push_size _ rfl
  have g2 : (((s.heap.push (itObj l)).push (itsObj s.heap.objs.size)).push (mapObj (s.heap.push (itObj l)).objs.size f)).get? (s.heap.push (itObj l)).objs.size = some _ := Heap.get?_push_of_some _ (Heap.get?_push_size _ rfl)
  have g1 : (((s.heap.push (itObj l)).push (itsObj s.heap.objs.size)).push (mapObj (s.heap.push (itObj l)).objs.size f)).get? s.heap.objs.size = some _ := Heap.get?_push_of_some _ (Heap.get?_push_of_some _ (Heap.get?_push_size _ rfl))
  have fresh : ∀ a, s.heap.objs.size ≤ a → s.heap.get? a = none := fun a ha => by
    cases e : s.heap.get? a with
    | none => rfl
    | some o' => exact absurd (Heap.lt_size e) (Nat.not_lt.mpr ha)
  refine ⟨⟨_, g3, rfl⟩, h _ _ _ _ g3 g2 g1 (fresh _ (by rw [z2]; omega)) (fresh _ (by rw [z1]; omega)) (fresh _ (Nat.le_refl _)) ?_ ?_ ?_ fun c o x => Heap.get?_push_of_some _ (Heap.get?_push_of_some _ (Heap.get?_push_of_some _ x))⟩
  · exact Nat.ne_of_gt (by rw [z1, z2]; omega)
  · exact Nat.ne_of_gt (by rw [z2]; omega)
  · exact Nat.ne_of_gt (by rw [z1]; omega)
theorem map_pyIter {M T : Addr} {f : Value} {Q : Value → Shared → Prop} (hz : s.heap.get? M = some (mapObj T f)) (h : Q (.ref M) s) : wpAny (model prog w) A (pyIter (.ref M)) Q E s := by
  have hT : s.TypeIs (.ref M) "map" := ⟨_, hz, rfl⟩
  refine wpAny_pyIter_slot hT map_iter (wpAny_call_entry map_iter hT map_entry_iter ?_ (map_args_iter _))
  show wpAny _ _ (ret (.ref M)) _ _ s
  exact wpAny_pure ⟨_, rfl, "map", _, hT, map_next.lookup, h⟩

/-- a turn of map over a list: the next item, handed to the def f -/
theorem map_turn {M T I l : Addr} {i : Nat} {f x : Value} {xs : Array Value} {Q : Option Value → Shared → Prop}
    (hz : s.heap.get? M = some (mapObj T f)) (hT : s.heap.get? T = some (itsObj I)) (hI : s.heap.IsListIter I l i) (hl : s.heap.IsList l xs) (hx : xs[i]? = some x)
    (h : ∀ h', h'.IsListIter I l (i + 1) → Heap.SameBut I s.heap h' → wpAny (model prog w) A.in1 (call f [x]) (fun v s' => Q (some v) s') (fun _ _ => False) { s with heap := h' }) :
    wpAny (model prog w) A (pyNext (.ref M)) Q E s := by
  have hM : s.TypeIs (.ref M) "map" := ⟨_, hz, rfl⟩
  unfold pyNext
  refine wpAny_bind (wpAny_attempt (wpAny_callSpecial?_slot (name := Str.ofString "__next__") hM map_next
    (wpAny_call_entry map_next hM map_entry_next ?_ (map_args_next _))))
  show wpAny _ _ (field (.ref M) 0 >>= _) _ _ _
  refine wpAny_bind (wpAny_field hz rfl (x := .ref T) rfl ?_)
  refine wpAny_bind (wpAny_seqItems hT rfl ?_)
  have hIM : I ≠ M := fun e => by
    obtain ⟨o, ho, hc, _⟩ := hI
    rw [e, hz] at ho; cases ho; exact absurd hc (by simp)
  dsimp only
  refine wpAny_bind (wpAny_arrayLoop ?_)
  rw [List.forIn_cons]
  refine wpAny_bind (wpAny_bind (wpAny_holding (wpAny_nextOf_list_item hI hl hx fun h₁ hI₁ hs₁ => ?_)))
  refine wpAny_pure ?_
  dsimp only
  rw [List.forIn_nil]
  refine wpAny_pure ?_
  have hz₁ : h₁.get? M = some (mapObj T f) := hs₁.extBut _ _ (Ne.symm hIM) hz
  refine wpAny_bind (wpAny_field hz₁ rfl (x := f) rfl ?_)
  refine wpAny_bind (wpAny_holding (wpAny_mono (h h₁ hI₁ hs₁) (fun v s' hq => ?_) fun _ _ e => e.elim))
  refine wpAny_bind (wpAny_letGo (wpAny_pure ⟨_, rfl, wpAny_pure hq⟩))
theorem map_end {M T I l : Addr} {i : Nat} {f : Value} {xs : Array Value} {Q : Option Value → Shared → Prop} (hh : A.handled = none)
    (hz : s.heap.get? M = some (mapObj T f)) (hT : s.heap.get? T = some (itsObj I)) (hI : s.heap.IsListIter I l i) (hl : s.heap.IsList l xs) (hx : xs[i]? = none)
    (h : ∀ h', Heap.ExtBut I s.heap h' → Q none { s with heap := h' }) :
    wpAny (model prog w) A (pyNext (.ref M)) Q E s := by
  have hM : s.TypeIs (.ref M) "map" := ⟨_, hz, rfl⟩
  unfold pyNext
  refine wpAny_bind (wpAny_attempt (wpAny_callSpecial?_slot (name := Str.ofString "__next__") hM map_next
    (wpAny_call_entry map_next hM map_entry_next ?_ (map_args_next _))))
  show wpAny _ _ (field (.ref M) 0 >>= _) _ _ _
  refine wpAny_bind (wpAny_field hz rfl (x := .ref T) rfl ?_)
  refine wpAny_bind (wpAny_seqItems hT rfl ?_)
  dsimp only
  refine wpAny_bind (wpAny_arrayLoop ?_)
  rw [List.forIn_cons]
  refine wpAny_bind (wpAny_bind (wpAny_holding (wpAny_nextOf_list_end hh hI hl hx fun h₁ e hs₁ he => ?_)))
  obtain ⟨o, ho, hc⟩ := he
  refine wpAny_bind (wpAny_isInstance (T := "StopIteration") (b := true) ⟨o, ho, hc⟩ isSubtype_stop ?_)
  exact wpAny_pure (h _ hs₁)
end
end
section
set_option maxRecDepth 100000
set_option maxHeartbeats 8000000
open Sem (wp)
open AutoSeq1 (wpAny_loadPart')
section
variable {prog : Program} {w : World} {A : Around} {E : Value → Shared → Prop} {s : Shared} {I : Addr} {fp wr : List Addr} {G : Array GenState → Array GenState → Prop} {n : Nat} {P : Nat → Value → Prop} {St : Nat → Shared → Prop}
/-- the items of a map object, taken one by one -/
theorem collect_map {Q : List Value → Shared → Prop} (W : WalksS prog w A.in1 I fp wr G n P St) (hT : ∀ i s, St i s → s.TypeIs (.ref I) "map") (hst : St 0 s) (hfp : ∀ b ∈ fp, b < s.heap.objs.size) (hI : I ∈ fp)
    (hQ : ∀ s' acc, Moved wr G s s' → ItemsOf P acc n → Q acc.toList s') (hn : n ≤ sizeLine) : wpAny (model prog w) A (collect (.ref I)) Q E s := by
  have hSf : s.heap.objs.size ∉ fp := fun hm => Nat.lt_irrefl _ (hfp _ hm)
  have hSI : s.heap.objs.size ≠ I := fun e => hSf (e ▸ hI)
  unfold collect
  refine wpAny_bind (wpAny_runValue (codeAny_builtin F.entry_proto_collect ?_))
  rw [Around.under_plainId F.plain_proto_collect _]
  show wpAny _ A.in1 (newList [] >>= fun l => again (.builtin "list.__iadd__" ⟨[l, .ref I], []⟩)) _ _ s
  refine wpAny_bind (wpAny_newObj_type ?_)
  refine wpAny_pure ⟨plainId_quiet F.plain_list_iadd _, codeAny_builtin F.entry_list_iadd ?_⟩
  rw [Around.under_plainId F.plain_list_iadd _]
  have hst₁ := W.frame 0 s (s.heap.push { cls := .type "list", data := .seq ([] : List Value).toArray }) s.toks hst (Nat.le_refl _) fun b _ o e => Heap.get?_push_of_some _ e
  show wpAny _ A.in1 (Builtin.List.listExtendWith (.ref s.heap.objs.size) (.ref I) (.ref s.heap.objs.size)) _ _ _
  unfold Builtin.List.listExtendWith
  refine wpAny_bind (wpAny_typeOf (hT 0 _ hst₁) ?_)
  have h1 : Builtin.List.listSameRef (.ref s.heap.objs.size) (.ref I) = false := by simp [Builtin.List.listSameRef, hSI]
  have h2 : (Value.type "map" == Value.type "list") = false := by decide
  have h3 : (Value.type "map" == Value.type "tuple") = false := by decide
  simp only [h1, h2, h3, Bool.or_false, Bool.false_eq_true, if_false]
  refine wpAny_bind (W.self 0 _ _ _ hst₁ ?_)
  refine wpAny_bind (wpAny_holding ?_)
  unfold Builtin.List.listLengthHint
  refine wpAny_bind (wpAny_specialOf (hT 0 _ hst₁) map_no_len ?_)
  show wpAny _ A.in1 (specialOf (Value.ref I) (Str.ofString "__length_hint__") >>= _) _ _ _
  refine wpAny_bind (wpAny_specialOf (hT 0 _ hst₁) map_no_hint ?_)
  refine wpAny_pure ?_
  show wpAny _ A.in1 (rule "list.extend.makes-room" >>= fun _ => Builtin.List.listTouch (.ref s.heap.objs.size) >>= fun _ =>
    again (.builtin "list.extend.loop" ⟨[.ref s.heap.objs.size, .ref I, .ref s.heap.objs.size], []⟩)) _ _ _
  refine wpAny_bind (wpAny_rule ?_)
  have hS₁ : (s.heap.push { cls := .type "list", data := .seq ([] : List Value).toArray }).get? s.heap.objs.size = some { cls := .type "list", data := .seq ([] : List Value).toArray } := Heap.get?_push_size _ rfl
  refine wpAny_bind ?_
  show wpAny _ A.in1 (updateSeq s.heap.objs.size (·.push .none) >>= fun _ => updateSeq s.heap.objs.size (·.pop)) _ _ _
  refine wpAny_bind (wpAny_updateSeq hS₁ rfl ?_)
  have hS₂ := Heap.get?_update_self (Obj.mapSeq (·.push Value.none)) hS₁ rfl
  refine wpAny_updateSeq hS₂ rfl ?_
  have hS₃ := Heap.get?_update_self (Obj.mapSeq (·.pop)) hS₂ rfl
  have oth : ∀ b o, b ≠ s.heap.objs.size → (s.heap.push { cls := .type "list", data := .seq ([] : List Value).toArray }).get? b = some o →
      (((s.heap.push { cls := .type "list", data := .seq ([] : List Value).toArray }).update s.heap.objs.size (Obj.mapSeq (·.push Value.none))).update s.heap.objs.size (Obj.mapSeq (·.pop))).get? b = some o :=
    fun b o hb e => (Heap.get?_update_other _ _ (Ne.symm hb)).trans ((Heap.get?_update_other _ _ (Ne.symm hb)).trans e)
  refine wpAny_pure ⟨plainId_quiet F.plain_extend_loop _, codeAny_extend_loopS W hn _ hSf _ n 0 _ _ _ rfl (Nat.zero_le _)
    (W.frame 0 ({ s with heap := s.heap.push { cls := .type "list", data := .seq ([] : List Value).toArray } } : Shared) _ s.toks hst₁ (Nat.le_refl _) fun b hb o e => oth b o (fun h => hSf (h ▸ hb)) e) hS₃ (ItemsOf.nil P) fun s' acc' c' hm hS' hacc => ?_⟩
  show wpAny _ A (load s.heap.objs.size >>= _) _ _ s'
  refine wpAny_bind (wpAny_load hS' ?_)
  refine wpAny_pure (hQ s' acc' (Moved.drop_new (o := { cls := .type "list", data := .seq ([] : List Value).toArray }) (tk := s.toks) (Moved.trans W.gtrans ((Moved.refl W.grefl).then_heap (by first | exact Nat.le_refl _ | exact Nat.le_succ _ | omega) fun b o hb e => ?_) hm) (Nat.le_refl _)) hacc)
  exact oth b o (fun h => hb (h ▸ List.mem_cons_self)) e

theorem tuple_map_code {Q₁ : Value → Shared → Prop} (W : WalksS prog w A.in1.in1 I fp wr G n P St) (hT : ∀ i s, St i s → s.TypeIs (.ref I) "map") (hst : St 0 s) (hfp : ∀ b ∈ fp, b < s.heap.objs.size) (hI : I ∈ fp)
    (h : ∀ s' acc, Moved wr G s s' → ItemsOf P acc n → Q₁ (.ref s'.heap.objs.size) { s' with heap := s'.heap.push { cls := .type "tuple", data := .seq acc } }) (hsz : n ≤ sizeLine) :
    codeAny (model prog w) A (.call (.builtin "tuple.__new__") ⟨[.type "tuple", .ref I], []⟩) (wants Q₁ E) s := by
  refine codeAny_of_tree ?_
  show wpAny _ A.in1 (do checkBuiltinCall "tuple.__new__" ⟨[.type "tuple", .ref I], []⟩; again (.builtin "tuple.__new__" ⟨[.type "tuple", .ref I], []⟩)) _ _ s
  refine wpAny_bind (wpAny_of_eq (F.newCall_tuple_1 _) (wpAny_pure ⟨plainId_quiet F.plain_tuple_new _, codeAny_builtin F.entry_tuple_new ?_⟩))
  rw [Around.under_plainId F.plain_tuple_new _]
  have hsub := sub_tuple_self
  have hinit := init_tuple_lookup
  have hmh := madeHere_tuple
  have hTI := hT 0 s hst
  wp_walk using wpAny_typeOf hTI, collect_map (hn := hsz) W hT hst hfp hI
  intro s' acc hm hacc
  show wpAny _ _ (Builtin.Tuple.tupleExact acc.toList.toArray >>= fun v => ret v) _ _ _
  unfold Builtin.Tuple.tupleExact
  refine wpAny_bind (wpAny_newObj_type ?_ (by show acc.toList.toArray.size ≤ sizeLine; simp only [Array.toArray_toList]; rw [hacc.1]; exact hsz))
  refine wpAny_pure ?_
  have e : acc.toList.toArray = acc := by simp
  rw [e]
  exact h s' acc hm hacc

theorem tuple_map {Q : Value → Shared → Prop} (W : WalksS prog w A.in1.in1.in1 I fp wr G n P St) (hT : ∀ i s, St i s → s.TypeIs (.ref I) "map") (hst : St 0 s) (hfp : ∀ b ∈ fp, b < s.heap.objs.size) (hI : I ∈ fp)
    (hQ : ∀ s' acc, Moved wr G s s' → ItemsOf P acc n → Q (.ref s'.heap.objs.size) { s' with heap := s'.heap.push { cls := .type "tuple", data := .seq acc } }) (hsz : n ≤ sizeLine) :
    wpAny (model prog w) A (call (.type "tuple") [.ref I]) Q E s := by
  refine callType_codes (Q₁ := fun obj s₁ => s₁.TypeIs obj "tuple" ∧ Q obj s₁) F.called_tuple (F.typeCall_tuple_1 _) F.entry_object_init
    (tuple_map_code (hsz := hsz) W hT hst hfp hI fun s' acc hm hacc => ⟨⟨_, Heap.get?_push_size _ rfl, rfl⟩, hQ s' acc hm hacc⟩) fun obj s₁ h₁ => ?_
  exact ⟨h₁.1, F.args_object_init_2 obj _, object_init_meets F.called_tuple.init.lookup F.called_tuple.made (by decide) prog w A.in1 _ s₁ ⟨h₁.1, rfl, h₁.2⟩⟩
end

section
variable {w : World} {mean : ExcName → Option Value} {mg mb : Str → Option Value} {dp un : Nat} {gd : Option (List Code)} {cn : Str} {cs : Scope} {a : Addr} {ccd : Value} {cl : List (Str × Addr)} {outer : List Env} {A₀ : Around} {base h₀ : Heap} {L : Addr} {m : Str → Option Value} {s : Shared} {Q E : Value → Shared → Prop} {news : List (Addr × Obj)}
/-- fspath over a list of texts, by map -/
theorem walks_map {M T I l : Addr} {us : List Value} {ss : List Str} {N : Nat} (hs : StrsAre us ss)
    (B : Below A₀ base outer h₀) (X : (hd.heap_1 w.params).In h₀) (T₀ : Top hd.view_39 (looseW hd.view_39 [Str.ofString "_safe_string"]) mean mg mb h₀) (hk : cs.kind = .function)
    (hd : dp + 1 < recursionLimit) (hu : un + 9 < cLine) (hI₀ : h₀.get? I = none) (hIL : I ≠ L) (hM : M < N) (hT : T < N) (hI : I < N) (hl : l < N) (hL : L < N) (hIM : I ≠ M) (hIT : I ≠ T) (hIl : I ≠ l) :
    WalksS PySem.Challenge.rw_in0025_01.row.prog w (ktrTop dp un gd cn cs L a ccd cl outer) M (List.range N) [I] (fun a b => b = a) us.length (fun i v => ∃ y t, ss[i]? = some y ∧ v = .str y t)
      (fun i s => s.heap.get? M = some (mapObj T (.ref 102)) ∧ s.heap.get? T = some (itsObj I) ∧ s.heap.IsListIter I l i ∧ s.heap.IsList l us.toArray ∧ Fr h₀ L s.heap m) where
  sub := fun b hb => by rw [List.mem_singleton.mp hb]; exact List.mem_range.mpr hI
  grefl := fun _ => rfl
  gtrans := fun _ _ _ h1 h2 => h2.trans h1
  frame := fun i s h' tk st _ hk => by
    obtain ⟨h1, h2, h3, h4, F⟩ := st
    have at' : ∀ b, b < N → ∀ o, s.heap.get? b = some o → h'.get? b = some o := fun b hb => hk b (List.mem_range.mpr hb)
    exact ⟨at' M hM _ h1, at' T hT _ h2, h3.at fun o e => at' I hI o e, h4.at fun o e => at' l hl o e, F.ns.at' fun o e => at' L hL o e, fun b o e => at' b (Nat.lt_trans (Nat.lt_of_lt_of_le (Heap.lt_size e) F.above) hL) o (F.keep b o e), F.above⟩
  item := fun i s Q E hi st hQ => by
    obtain ⟨h1, h2, h3, h4, F⟩ := st
    have hx : us.toArray[i]? = some us[i] := by simp [hi]
    obtain ⟨y, t, e, he⟩ := strs_get hs (i := i) (v := us[i]) (by simp [hi])
    refine wpAny_with_toks (Nat.le_refl s.toks) (map_turn h1 h2 h3 h4 hx fun h₁ hI₁ hs₁ => ?_)
    rw [e]
    have F₁ : Fr h₀ L h₁ m := F.change hs₁ hIL hI₀
    refine fspath_ok w y t _ _ _ _ _ _ _ _ _ _ _ _ _ _ _ _ _ { s with heap := h₁ } _ _ B F₁ X T₀ hk hd (by omega) trivial fun r h' tk' F' kp hR htk => ?_
    obtain ⟨t', rfl⟩ := hR
    refine hQ _ _ ⟨y, t', he, rfl⟩ ⟨kp _ _ (hs₁.extBut _ _ (Ne.symm hIM) h1), kp _ _ (hs₁.extBut _ _ (Ne.symm hIT) h2), hI₁.at fun o e => kp _ _ e, (h4.extBut hs₁.extBut (Ne.symm hIl)).at fun o e => kp _ _ e, F'⟩ ⟨fun b o hb e => kp _ _ (hs₁.extBut _ _ (fun q => hb (by rw [q]; exact List.mem_singleton.mpr rfl)) e), rfl, rfl, rfl, htk⟩
  done := fun s Q E st hQ => by
    obtain ⟨h1, h2, h3, h4, F⟩ := st
    refine map_end rfl h1 h2 h3 h4 (by simp) fun h' hs' => hQ _ ⟨fun b o hb e => hs' _ _ (fun q => hb (by rw [q]; exact List.mem_singleton.mpr rfl)) e, rfl, rfl, rfl, Nat.le_refl _⟩
  self := fun i s Q E st hQ => map_pyIter st.1 hQ
end
end
section
set_option maxRecDepth 100000
set_option maxHeartbeats 8000000
open Sem (wp)
section
variable {prog : Program} {w : World} {A : Around} {E : Value → Shared → Prop} {s : Shared} {h₀ : Heap} {L : Addr} {m : Str → Option Value} {news : List (Addr × Obj)}
theorem map_N {l : Addr} {f : Value} {xs : Array Value} {Q : Value → Shared → Prop} (F : Fr h₀ L s.heap m) (N : News h₀ L s.heap news) (hl : s.heap.IsList l xs)
    (h : ∀ M T I h', Fr h₀ L h' m → News h₀ L h' ((M, mapObj T f) :: (T, itsObj I) :: (I, itObj l) :: news) → (∀ p ∈ news, p.1 ≠ I) → Q (.ref M) { s with heap := h' }) :
    wpAny (model prog w) A (call (.type "map") [f, .ref l]) Q E s := by
  refine call_map hl fun M T I h' hM hT hI m0 t0 i0 _ _ _ k => h M T I h' (F.keeps k) (fun p hp => ?_) (fun p hp e => ?_)
  · have key : ∀ a o, h'.get? a = some o → s.heap.get? a = none → h'.get? a = some o ∧ a ≠ L ∧ h₀.get? a = none := fun a o e e0 => by
      refine ⟨e, fun q => ?_, ?_⟩
      · obtain ⟨oL, _, _, hL, _⟩ := F.ns
        rw [← q] at hL
        rw [show s.heap.get? _ = none from e0] at hL
        cases hL
      · cases q : h₀.get? a with
        | none => rfl
        | some o' => rw [F.keep _ _ q] at e0; cases e0
    simp only [List.mem_cons] at hp
    rcases hp with rfl | rfl | rfl | hp
    · exact key _ _ hM m0
    · exact key _ _ hT t0
    · exact key _ _ hI i0
    · exact ⟨k _ _ (N p hp).1, (N p hp).2⟩
  · have := (N p hp).1
    rw [e, i0] at this; cases this
end
section
variable {w : World} {mean : ExcName → Option Value} {mg mb : Str → Option Value} {dp un : Nat} {gd : Option (List Code)} {cn : Str} {cs : Scope} {a : Addr} {ccd : Value} {cl : List (Str × Addr)} {outer : List Env} {A₀ : Around} {base h₀ : Heap} {L : Addr} {m : Str → Option Value} {s : Shared} {Q E : Value → Shared → Prop} {news : List (Addr × Obj)}
theorem tuple_N {M T I l : Addr} {x y : Str} {t u : Tok} 
    (B : Below A₀ base outer h₀) (F : Fr h₀ L s.heap m) (X : (hd.heap_1 w.params).In h₀) (N : News h₀ L s.heap ((M, mapObj T (.ref 102)) :: (T, itsObj I) :: (I, itObj l) :: news)) (T₀ : Top hd.view_39 (looseW hd.view_39 [Str.ofString "_safe_string"]) mean mg mb h₀) (hk : cs.kind = .function)
    (hd : dp + 1 < recursionLimit) (hu : un + 12 < cLine) (hl : s.heap.IsList l (List.toArray [.str x t, .str y u])) (off : ∀ p ∈ news, p.1 ≠ I)
    (ret : ∀ D t1 t2 h' tk', Fr h₀ L h' m → News h₀ L h' ((D, tupOf [.str x t1, .str y t2] 0) :: news) → (∀ p ∈ news, p.1 ≠ D) → Q (.ref D) { s with heap := h', toks := tk' }) :
    wpAny (model PySem.Challenge.rw_in0025_01.row.prog w) (ktrTop dp un gd cn cs L a ccd cl outer) (call (.type "tuple") [.ref M]) Q E s := by
  have NM := N (M, mapObj T (.ref 102)) (by simp)
  have NT := N (T, itsObj I) (by simp)
  have NI := N (I, itObj l) (by simp)
  have hIM : I ≠ M := fun e => by
    have a := NI.1; have b := NM.1; dsimp only at a b; rw [e] at a; rw [a] at b; exact absurd (congrArg Obj.cls (Option.some.inj b)) (by simp)
  have hIT : I ≠ T := fun e => by
    have a := NI.1; have b := NT.1; dsimp only at a b; rw [e] at a; rw [a] at b; exact absurd (congrArg Obj.cls (Option.some.inj b)) (by simp)
  have hIl : I ≠ l := fun e => by
    obtain ⟨o, ho, hc, _⟩ := hl
    have a := NI.1; dsimp only at a; rw [e, ho] at a; have a' := Option.some.inj a; rw [a'] at hc; exact absurd hc (by simp)
  have hs : StrsAre [.str x t, .str y u] [x, y] := .cons _ _ (.cons _ _ .nil)
  have W := walks_map (w := w) (mean := mean) (mg := mg) (mb := mb) (dp := dp) (un := un + 3) (gd := gd) (cn := cn) (cs := cs) (a := a) (ccd := ccd) (cl := cl) (outer := outer) (A₀ := A₀) (base := base) (h₀ := h₀) (L := L) (m := m) (M := M) (T := T) (I := I) (l := l) (N := s.heap.objs.size) hs B X T₀ hk hd (by omega) NI.2.2 NI.2.1 (Heap.lt_size NM.1) (Heap.lt_size NT.1) (Heap.lt_size NI.1) (by obtain ⟨o, ho, _⟩ := hl; exact Heap.lt_size ho) F.ns.lt hIM hIT hIl
  refine tuple_map (A := ktrTop dp un gd cn cs L a ccd cl outer) W (fun i s st => ⟨_, st.1, rfl⟩) ⟨NM.1, NT.1, ⟨_, NI.1, rfl, rfl⟩, hl, F⟩ (fun b hb => List.mem_range.mp hb) (List.mem_range.mpr (Heap.lt_size NM.1)) (fun s' acc hm hacc => ?_) (by rw [sizeLine_eq]; show 2 ≤ _; decide)
  obtain ⟨h1, h2⟩ := hacc
  obtain ⟨t1, t2, e⟩ : ∃ t1 t2, acc = List.toArray [.str x t1, .str y t2] := by
    have l2 : acc.toList.length = 2 := by simpa using h1
    match hq : acc.toList, l2 with
    | [v0, v1], _ =>
      obtain ⟨y0, t0, a0, rfl⟩ := h2 0 v0 (by rw [← Array.getElem?_toList, hq]; rfl)
      obtain ⟨y1, t1, a1, rfl⟩ := h2 1 v1 (by rw [← Array.getElem?_toList, hq]; rfl)
      simp only [List.getElem?_cons_zero, List.getElem?_cons_succ, Option.some.injEq] at a0 a1
      subst a0 a1
      exact ⟨t0, t1, by rw [← hq, Array.toArray_toList]⟩
  obtain ⟨k, g, dr, os, tk⟩ := hm
  obtain ⟨hp', g', dr', tk', os'⟩ := s'
  dsimp only at g dr os k ⊢
  subst g dr os
  subst e
  have F' : Fr h₀ L hp' m := ⟨F.ns.at' fun o e => k _ _ (fun q => NI.2.1 (List.mem_singleton.mp q).symm) e, fun b o e => k _ _ (fun q => by rw [List.mem_singleton.mp q, NI.2.2] at e; cases e) (F.keep b o e), F.above⟩
  have old : ∀ p ∈ news, hp'.get? p.1 = some p.2 := fun p hp => k _ _ (fun q => off p hp (List.mem_singleton.mp q)) (N p (by simp [hp])).1
  refine ret _ t1 t2 _ _ (F'.push _) (fun p hp => ?_) (fun p hp => Nat.ne_of_lt (Heap.lt_size (old p hp)))
  rcases List.mem_cons.mp hp with rfl | hp
  · exact ⟨Heap.get?_push_size _ rfl, Nat.ne_of_gt F'.ns.lt, next_is_new F'⟩
  · exact ⟨Heap.get?_push_of_some _ (old p hp), (N p (by simp [hp])).2⟩
end
end
section
set_option maxRecDepth 100000
set_option maxHeartbeats 8000000
section
variable {prog : Program} {w : World} {A₀ A : Around} {s : Shared} {base h₀ : Heap} {outer : List Env} {L : Addr} {m : Str → Option Value} {env : Env} {K : Frag} {p : Program} {loose : List Str} {mean : ExcName → Option Value} {mg mb : Str → Option Value}
  {R : Result → Shared → Prop} {name qual : Str} {params : Arguments} {body : List Stmt} {scope : Scope} {dV kV doc pm cdv ct oc : Value} {an od : Option Addr} {osl : Array (Option Value)} {f : Addr} {args : Args} {binds : List (Str × Value)}

/-- a def with captured names is entered, all that stands is the base -/
theorem ro_enterC (B : Below A₀ base outer h₀) (F : Fr h₀ L s.heap m) (X₀ : K.In h₀) (T : Top p loose mean mg mb h₀) (hA : A.frames = some (env :: outer)) (hf : env.frame = some L) (hke : env.scope.kind = .function)
    (ho : K.lookup f = some ⟨oc, od, .func (fnOf name qual params body scope dV kV doc pm an cdv ct), osl⟩) (hcd : codeIn K cdv qual = true) (hroom : A.depth < recursionLimit)
    (hbind : BindsTo s (fnOf name qual params body scope dV kV doc pm an cdv ct) args binds) (hkind : (binds.all fun y => scope.names.lookup y.1 == some .local || scope.names.lookup y.1 == some .cell) = true)
    (hnd : ((cellsFrom 0 scope.names []).map (·.1)).Nodup)
    (h : ∀ L' h₁ tk cells, Fr s.heap L' h₁ (bindL (envOfC qual scope L' f cdv).kindOf binds fun _ => none) → News s.heap L' h₁ cells →
      CellsAre (bindC (envOfC qual scope L' f cdv).kindOf binds fun _ => none) (cellsFrom (L' + 1) scope.names []) cells → Below A base (env :: outer) s.heap → K.In s.heap → Top p loose mean mg mb s.heap →
      wpAny (model prog w) (A.deeper (envOfC qual scope L' f cdv)) (execs body (envOfC qual scope L' f cdv))
        (fun fl s' => LeaveK h₀ L m s.heap R (match fl with | .ret v => v | _ => .none) s')
        (fun e s' => wpAny (model prog w) (A.deeper (envOfC qual scope L' f cdv)) (leaving (envOfC qual scope L' f cdv) e) (fun _ s'' => R (.error e) s'') (fun e' s'' => R (.error e') s'') s')
        { s with heap := h₁, toks := tk })
    (hco : scope.isCoroutine = false) (hgen : scope.isGenerator = false) (hk : scope.kind = .function) : codeAny (model prog w) A (.call (.ref f) args) R s := by
  obtain ⟨FG, BG, st, lv⟩ := groundX (R := R) B F (News.nil (h₀ := h₀) (h := s.heap) (L := L)) hA hf hke
  refine codeAny_call_function hroom ((X₀.keeps F.keep) _ _ ho) rfl hco hgen rfl (codeRec_of (X₀.keeps F.keep) hcd) (hbind _ _ _ _ ?_)
  refine wpAny_newFunctionEnv_cells hk (kindsX hkind _) fun env' he s' x => ?_
  subst he
  refine ⟨(T.nolimit.keeps F.keep).keeps x.toInCall.keep, codeAny_func ?_⟩
  obtain ⟨h₁, tk, rfl, _⟩ := x.done
  have hk₁ := x.toInCall.keep
  obtain ⟨cells, NC, Y⟩ := Cl.news (h₀ := s.heap) (Nat.le_refl _) fun n c hm => ⟨x.cell n c (lookup_of_mem_nodup (cellsFrom_names scope.names 0 (s.heap.objs.size + 1) [] [] rfl ▸ hnd) hm), x.above n c hm⟩
  refine wpAny_mono (h s.heap.objs.size h₁ tk cells ⟨x.toInCall.ns, fun b o e => hk₁ b o e, Nat.le_refl _⟩ NC Y BG (X₀.keeps F.keep) (T.keeps F.keep)) (fun fl s' hl => lv _ _ hl) fun _ _ y => y
end
end
section
set_option maxRecDepth 100000
set_option maxHeartbeats 8000000
open Sem (wp)
def hb (b : Bool) : Int := if b then 1 else 0
def boolIs (k : Bool) : Value → Bool
  | .bool b => b == k
  | _ => false
theorem boolIs_shape {k : Bool} {v : Value} (h : boolIs k v = true) : v = .bool k := by
  cases v <;> simp_all [boolIs]
section
variable {prog : Program} {w : World} {A : Around} {E : Value → Shared → Prop} {s : Shared}
theorem bool_hash_slot : Slot "bool" "__hash__" "int.__hash__" :=
  .of (owner := "int") (n := "__hash__") (by rw [typeLookup_type, builtinLookup_eq_fast]; kernel_rfl) (by decide +kernel) (by decide +kernel) (by decide +kernel)
    (by first | exact .inl (by decide +kernel) | exact .inr (by decide +kernel)) (by rw [isSubtype_type]; kernel_rfl)
theorem hash_bool {b : Bool} {Q : Int → Shared → Prop} (h : Q (hb b) { s with toks := s.toks + 1 }) : wpAny (model prog w) A (pyHash (.bool b)) Q E s := by
  unfold pyHash
  have hv : [Value.bool b].any Value.onHeap = false := rfl
  have hT : s.TypeIs (.bool b) "bool" := rfl
  refine wpAny_bind ?_
  rw [cRoomFor, if_neg (by rw [hv]; exact Bool.false_ne_true)]; refine wpAny_pure ?_
  refine wpAny_bind (wpAny_specialOf hT bool_hash_slot.lookup ?_)
  show wpAny _ _ (if (some (Value.builtin "int.__hash__") == some Value.none) = true then _ else _) Q E s
  rw [if_neg (by rw [beq_builtin_none]; exact Bool.false_ne_true)]
  refine wpAny_bind (wpAny_specialOf hT bool_hash_slot.lookup ?_)
  show wpAny _ _ (callSpecialIfBoundUnlessNone? (.bool b) "__hash__" _ >>= _) Q E s
  refine wpAny_bind (wpAny_callSpecialIfBoundUnlessNone?_slot hT bool_hash_slot
    (wpAny_call_entry bool_hash_slot hT entry_int_hash ?_ (args_int_hash _)))
  cases b
  all_goals (
    unfold Builtin.«int.__hash__»
    repeat (any_goals (first | assumption | exact h | wp_step)))
  · refine ⟨.int 0 s.toks, by rfl, ?_⟩
    show wpAny _ _ (pyHashByItsType.reduced 0) Q E _
    unfold pyHashByItsType.reduced
    rw [if_pos (by decide)]
    exact wpAny_pure h
  · refine ⟨.int 1 s.toks, by rfl, ?_⟩
    show wpAny _ _ (pyHashByItsType.reduced 1) Q E _
    unfold pyHashByItsType.reduced
    rw [if_pos (by decide)]
    exact wpAny_pure h
theorem eq_boolV {a b : Bool} {Q : Bool → Shared → Prop} (h : Q (decide (a = b)) s) : wpAny (model prog w) A (PySem.eqBool (.bool a) (.bool b)) Q E s := by
  refine SeqAt.EqAt.bool_bool a b prog w E Q ?_
  cases a <;> cases b <;> exact h
def boolKind (prog : Program) (w : World) : KeyKind prog w Bool where
  is := boolIs
  hash := hb
  inj := fun v a b h1 h2 => by rw [boolIs_shape h1] at h2; have := boolIs_shape h2; injection this
  byValue := fun k v h => by rw [boolIs_shape h]; rfl
  pyHash := fun hv h => by rw [boolIs_shape hv]; exact hash_bool h
  eqBool := fun hu hv h => by rw [boolIs_shape hu, boolIs_shape hv]; exact eq_boolV h
  «strs» := fun k x t v h => by simp [boolIs] at h

abbrev setObj (es : Array (Int × Value)) (ep : Nat) (t : SetTable) : Obj := { cls := .type "set", data := .set es ep t }
/-- the table with b alone -/
def t1 (led b : Bool) : SetTable := (layNew (.fresh 0 0 led) #[] (hb b) (.bool b)).2.1
theorem lay1 (led b : Bool) : layNew (.fresh 0 0 led) #[] (hb b) (.bool b) = (#[(hb b, .bool b)], t1 led b, false, false) := by cases led <;> cases b <;> decide +kernel
theorem t1_facts (led b : Bool) : (t1 led b).plain = true ∧ (t1 led b).tooFull = false ∧ (t1 led b).fits 1 = true ∧ (t1 led b).led = led := by cases led <;> cases b <;> decide +kernel
/-- the set that holds both -/
def e2 (led b : Bool) : Array (Int × Value) := (layNew (t1 led b) #[(hb b, .bool b)] (hb (!b)) (.bool (!b))).1
def t2 (led b : Bool) : SetTable := (layNew (t1 led b) #[(hb b, .bool b)] (hb (!b)) (.bool (!b))).2.1
theorem lay2 (led b : Bool) : layNew (t1 led b) #[(hb b, .bool b)] (hb (!b)) (.bool (!b)) = (e2 led b, t2 led b, false, false) := by cases led <;> cases b <;> decide +kernel
theorem t2_facts (led b : Bool) : (t2 led b).plain = true ∧ (t2 led b).tooFull = false ∧ (t2 led b).fits 2 = true ∧ (t2 led b).led = led ∧ (e2 led b).size = 2 := by cases led <;> cases b <;> decide +kernel
end
end
section
set_option maxRecDepth 100000
set_option maxHeartbeats 8000000
open Sem (wp)
section
variable {prog : Program} {w : World} {A : Around} {E : Value → Shared → Prop} {s : Shared}
theorem set_add_bool {D : Addr} {es : Array (Int × Value)} {ep : Nat} {t : SetTable} {b : Bool} {Q : Value → Shared → Prop} (hD : s.heap.get? D = some (setObj es ep t))
    (hel : ElemsOf (boolKind prog w) es.toList) (hbd : es.size < 10) (hf : t.fits es.size = true)
    (h : ∀ tk, match es.toList.findIdx? (fun e => boolIs b e.2) with
      | some _ => Q .none { s with toks := tk }
      | none => ∀ es' t' , layNew t es (hb b) (.bool b) = (es', t', false, false) → t'.plain = true ∧ t'.tooFull = false ∧ es'.size < 10 ∧ ∀ h', Heap.SameBut D s.heap h' → h'.get? D = some (setObj es' (ep + 1) t') → Q .none { s with heap := h', toks := tk })
    (hL : es.toList.findIdx? (fun e => boolIs b e.2) = none → ∃ es' t', layNew t es (hb b) (.bool b) = (es', t', false, false)) :
    wpAny (model prog w) A (call (.builtin "set.add") [.ref D, .bool b]) Q E s := by
  have hT : s.TypeIs (.ref D) "set" := ⟨_, hD, rfl⟩
  have hkey : (boolKind prog w).is b (.bool b) = true := by simp [boolKind, boolIs]
  have hsc : (Value.bool b).scannable = true := rfl
  have hbd' : es.size < scanBound := Nat.lt_trans hbd (by decide)
  refine wpAny_call_entry F.slot_set_add hT F.entry_set_add ?_ (F.args_set_add_2 _ _)
  unfold Builtin.«set.add» Builtin.Frozenset.oneOther
  simp only [List.isEmpty_nil, bind_assoc]
  unfold Builtin.Frozenset.addrOf setAdd
  refine wpAny_bind (wpAny_pure ?_)
  try dsimp only
  refine wpAny_bind (wpAny_pure ?_)
  try dsimp only
  refine wpAny_bind ?_
  refine wpAny_holding ?_
  refine wpAny_bind (hash_bool ?_)
  unfold setAddHashed setAddHashedIn
  refine wpAny_holding (wpAny_bind (wpAny_setState_of (s := { s with toks := s.toks + 1 }) hD rfl hf ?_))
  dsimp only
  rw [byScan_of hsc hbd' hel]
  simp only [↓reduceIte]
  unfold setAddByScan
  refine wpAny_bind ?_
  refine wpAny_bind (wpAny_rule ?_)
  refine wpAny_bind (wpAny_setScan_of (knd := boolKind prog w) (s := { s with toks := s.toks + 1 }) hkey hD rfl hf hel ?_)
  have h1 := h (s.toks + 1)
  show wpAny _ _ (match (match es.toList.findIdx? (fun e => boolIs b e.2) with | some j => ScanMet.found (0 + j) | none => ScanMet.absent) with | _ => _) _ _ _
  cases hr : es.toList.findIdx? (fun e => boolIs b e.2) with
  | some j =>
    rw [hr] at h1
    dsimp only at h1
    rw [show List.findIdx? (fun e => (boolKind prog w).is b e.snd) es.toList = some j from hr]
    refine wpAny_pure (wpAny_pure ?_)
    show wpAny _ _ (ret Value.none) _ _ _
    exact wpAny_pure ⟨_, rfl, h1⟩
  | none =>
    rw [hr] at h1
    obtain ⟨es', t', e⟩ := hL hr
    obtain ⟨p1, p2, p3, p4⟩ := h1 es' t' e
    rw [show List.findIdx? (fun e => (boolKind prog w).is b e.snd) es.toList = none from hr]
    dsimp only
    rw [e]
    dsimp only
    rw [if_pos p1]
    refine wpAny_bind (m := pure ()) (wpAny_pure ?_)
    refine wpAny_bind (m := pure true) (wpAny_pure ?_)
    simp only [if_true, Bool.not_false, Bool.true_and, p2, Bool.false_eq_true, if_false]
    refine wpAny_bind (wpAny_storeSet_of (s := { s with toks := s.toks + 1 }) hD rfl ?_ (Nat.le_trans (Nat.le_of_lt p3) (by rw [sizeLine_eq]; decide)))
    refine wpAny_pure (wpAny_pure ?_)
    show wpAny _ _ (ret Value.none) _ _ _
    refine wpAny_pure ⟨_, rfl, p4 _ (Heap.SameBut.update _ _ _) ?_⟩
    have := Heap.get?_update_self (Obj.putSet es' t') hD rfl
    exact this
end
end
section
set_option maxRecDepth 100000
set_option maxHeartbeats 8000000
open Sem (wp)
open LCg
/-- the set of b and c -/
def set2 (led b c : Bool) : Obj := if c = b then setObj #[(hb b, .bool b)] 1 (t1 led b) else setObj (e2 led b) 2 (t2 led b)
def setAcc (led b c : Bool) : Nat → Obj
  | 0 => setObj #[] 0 (.fresh 0 0 led)
  | 1 => setObj #[(hb b, .bool b)] 1 (t1 led b)
  | _ => set2 led b c
section
variable {prog : Program} {w : World} {A : Around} {E : Value → Shared → Prop} {s : Shared} {h₀ : Heap} {L : Addr} {m : Str → Option Value} {env : Env}
theorem set_add0 {D : Addr} {led b : Bool} {Q : Value → Shared → Prop} (hD : s.heap.get? D = some (setObj #[] 0 (.fresh 0 0 led)))
    (h : ∀ h' tk, Heap.SameBut D s.heap h' → h'.get? D = some (setObj #[(hb b, .bool b)] 1 (t1 led b)) → Q .none { s with heap := h', toks := tk }) :
    wpAny (model prog w) A (call (.builtin "set.add") [.ref D, .bool b]) Q E s := by
  refine set_add_bool hD (fun e he => by simp at he) (by decide) (by cases led <;> decide) (fun tk => ?_) (fun _ => ⟨_, _, lay1 led b⟩)
  show ∀ es' t', _
  intro es' t' e
  rw [lay1] at e
  obtain ⟨rfl, rfl, _⟩ := Prod.mk.inj e |>.imp id fun e => Prod.mk.inj e
  exact ⟨(t1_facts led b).1, (t1_facts led b).2.1, by (show 1 < 10; decide), fun h' a c => h h' tk a c⟩
theorem set_add1 {D : Addr} {led b c : Bool} {Q : Value → Shared → Prop} (hD : s.heap.get? D = some (setObj #[(hb b, .bool b)] 1 (t1 led b)))
    (h : ∀ h' tk, Heap.SameBut D s.heap h' → h'.get? D = some (set2 led b c) → Q .none { s with heap := h', toks := tk }) :
    wpAny (model prog w) A (call (.builtin "set.add") [.ref D, .bool c]) Q E s := by
  have hel : ElemsOf (boolKind prog w) (#[(hb b, Value.bool b)] : Array (Int × Value)).toList := fun e he => by
    have : e = (hb b, .bool b) := by simpa using he
    subst this
    exact ⟨⟨b, by simp [boolKind, boolIs], rfl⟩, rfl⟩
  by_cases hcb : c = b
  · subst hcb
    have hr : (#[(hb c, Value.bool c)] : Array (Int × Value)).toList.findIdx? (fun e => boolIs c e.2) = some 0 := by cases c <;> rfl
    refine set_add_bool hD hel (by show 1 < 10; decide) (t1_facts led c).2.2.1 (fun tk => ?_) (fun q => by rw [hr] at q; cases q)
    rw [hr]
    dsimp only
    have := h s.heap tk (Heap.SameBut.refl D s.heap) (by rw [set2, if_pos rfl]; exact hD)
    exact this
  · have hc : c = !b := by cases b <;> cases c <;> simp_all
    have hr : (#[(hb b, Value.bool b)] : Array (Int × Value)).toList.findIdx? (fun e => boolIs c e.2) = none := by subst hc; cases b <;> rfl
    refine set_add_bool hD hel (by show 1 < 10; decide) (t1_facts led b).2.2.1 (fun tk => ?_) (fun _ => ⟨_, _, by rw [hc]; exact lay2 led b⟩)
    rw [hr]
    dsimp only
    intro es' t' e
    rw [hc, lay2] at e
    obtain ⟨rfl, rfl, _⟩ := Prod.mk.inj e |>.imp id fun e => Prod.mk.inj e
    refine ⟨(t2_facts led b).1, (t2_facts led b).2.1, by rw [(t2_facts led b).2.2.2.2]; decide, fun h' a d => h h' tk a ?_⟩
    rw [set2, if_neg hcb]
    exact d
theorem new_set {Q : Value → Shared → Prop} (h : ∀ led, (!w.params.followText "set-order") = led → Q (.ref s.heap.objs.size) { s with heap := s.heap.push (setObj #[] 0 (.fresh 0 0 led)) }) : wpAny (model prog w) A (newSet (.type "set")) Q E s := by
  unfold newSet setsByText
  refine wpAny_bind (wpAny_bind (wpAny_askSetting (wpAny_pure ?_)))
  dsimp only
  simp only [newObj]
  exact wpAny_bind (wpAny_alloc (wpAny_pure (h _ rfl)))
theorem compTurn_set (elt target iter : PySem.Expr) (scope : Scope) (pos : Pos) (it acc : Value) (env : Env) :
    compTurn (.SetComp elt [⟨target, iter, [], 0⟩] scope pos) 0 it acc env = (standAt iter.pos >>= fun _ => pyNext it >>= fun r => match r with
      | none => pure (.done .next)
      | some v => letOwnedTupleGo target it v >>= fun _ => assign target env v >>= fun _ =>
        (eval elt env >>= fun x => standAt elt.pos >>= fun _ => call (.builtin "set.add") [acc, x] >>= fun _ => pure ()) >>= fun _ =>
          again (.compLoop (.SetComp elt [⟨target, iter, [], 0⟩] scope pos) 0 it acc env)) := by rfl
theorem loop_set {R : Result → Shared → Prop} {elt target iter : PySem.Expr} {scope : Scope} {pos : Pos} {it acc : Value} {env : Env} (I : Nat → Shared → Prop)
    (turn : ∀ n s, I n s → wpAny (model prog w) A (pyNext it) (fun r s₁ => match r with
      | none => R (.ok .next) s₁
      | some v => wpAny (model prog w) A (assign target env v) (fun _ s₂ => wpAny (model prog w) A (eval elt env) (fun x s₃ =>
          wpAny (model prog w) A (call (.builtin "set.add") [acc, x]) (fun _ s₄ => ∃ m, m < n ∧ I m s₄) (notedBy (model prog w) A env fun e s' => R (.error e) s') s₃)
          (notedBy (model prog w) A env fun e s' => R (.error e) s') s₂) (notedBy (model prog w) A env fun e s' => R (.error e) s') s₁) (notedBy (model prog w) A env fun e s' => R (.error e) s') s)
    (n : Nat) (h : I n s) (ht : ∀ v, letOwnedTupleGo target it v = pure () := by intro _; rfl) :
    codeAny (model prog w) A (.compLoop (.SetComp elt [⟨target, iter, [], 0⟩] scope pos) 0 it acc env) R s := by
  refine codeAny_loop rfl I (fun n s hI => ?_) n h
  show wpAny _ A ((compTurn (.SetComp elt [⟨target, iter, [], 0⟩] scope pos) 0 it acc env).onRaise (fun x => do noteFrame x env; theTreesLotGoes x)) _ _ s
  refine wpAny_noted ?_
  rw [compTurn_set]
  refine wpAny_bind (wpAny_standAt (wpAny_bind (wpAny_mono (turn n s hI) (fun r s₁ h₁ => ?_) fun _ _ h' => h')))
  cases r with
  | none => exact wpAny_pure h₁
  | some v =>
    refine wpAny_bind (wpAny_of_eq (ht v) ?_)
    refine wpAny_bind (wpAny_mono h₁ (fun _ s₂ h₂ => wpAny_bind (wpAny_bind (wpAny_mono h₂ (fun x s₃ h₃ => wpAny_bind (wpAny_standAt (wpAny_bind (wpAny_mono h₃ (fun _ s₄ h₄ => wpAny_pure (wpAny_pure ⟨rfl, h₄⟩)) fun _ _ h' => h')))) fun _ _ h' => h'))) fun _ _ h' => h')
theorem start_set {R : Result → Shared → Prop} {elt target iter ifs rest scope pos it acc env}
    (h0 : codeAny (model prog w) A (.compLoop (.SetComp elt (⟨target, iter, ifs, 0⟩ :: rest) scope pos) 0 it acc env) R s)
    (h : wpAny (model prog w) A (pyIter it) (fun it' s' => codeAny (model prog w) A (.compLoop (.SetComp elt (⟨target, iter, ifs, 0⟩ :: rest) scope pos) 0 it' acc env) R s')
      (notedBy (model prog w) A env fun x s' => R (.error x) s') s) :
    codeAny (model prog w) A (.compStart (.SetComp elt (⟨target, iter, ifs, 0⟩ :: rest) scope pos) 0 it acc env) R s := by
  refine codeAny_of_tree ?_
  show wpAny _ _ ((compStart (.SetComp elt (⟨target, iter, ifs, 0⟩ :: rest) scope pos) 0 it acc env).onRaise (fun x => do noteFrame x env; standAt theWindowsPlace)) _ _ s
  refine wpAny_notedAt ?_
  unfold compStart
  show wpAny _ _ (ask >>= _) _ _ s
  refine wpAny_bind (wpAny_askSetting (wpAny_ite ?_))
  split
  · first
      | exact wpAny_bind (wpAny_pure (wpAny_pure (And.intro rfl h0)))
      | exact wpAny_pure (And.intro rfl h0)
  · first
      | exact wpAny_bind (wpAny_rule (wpAny_bind (wpAny_standAt (wpAny_bind (wpAny_mono h (fun it' s' h' => wpAny_pure (And.intro rfl h')) fun _ _ x => x)))))
      | (refine wpAny_bind (wpAny_rule ?_); show wpAny _ _ (standAt iter.pos >>= _) _ _ s; exact wpAny_bind (wpAny_standAt (wpAny_bind (wpAny_mono h (fun it' s' h' => wpAny_pure (And.intro rfl h')) fun _ _ x => x))))

/-- the turns of a set comprehension over a tuple of two texts: what each gives -/
theorem set_block {elt iter : PySem.Expr} {x : Str} {px : Pos} {scope : Scope} {cl : List (Str × Addr)} {pos : Pos} {s₂ : Shared} {I : Addr} {fp : List Addr} {P : Nat → Value → Prop} {St : Nat → Heap → Prop} {S : List (Addr × Obj) → Prop} {news : List (Addr × Obj)}
    {b0 b1 : Bool} {RR : Value → Addr → Result → Shared → Prop}
    (W : Walks prog w A I fp [I] 2 P St) (hIo : ∀ i h, St i h → ∃ o, h.get? I = some o)
    (hSt : ∀ i h h' o nw, St i h → h.get? I = some o → h'.get? I = some o → (∀ b o, h₀.get? b = some o → h'.get? b = some o) → News h₀ L h' nw → S nw → St i h')
    (hcell : ∀ y ∈ scope.names, y.2 ≠ .cell) (hkind : scope.kind = .function) (hx : scope.names.lookup x = some .local) (hst : St 0 s₂.heap) (hfp : ∀ b ∈ fp, b < s₂.heap.objs.size)
    (F : Fr h₀ L s₂.heap m) (N : News h₀ L s₂.heap news) (hIL : L ≠ I) (hI₀ : h₀.get? I = none) (off : ∀ p ∈ news, p.1 ≠ I) (hS : S news)
    (turn : ∀ i v oI C oC D oD m₂ h tk (E' : Value → Shared → Prop), i < 2 → P i v → NsObj oC m₂ → m₂ x = some v → Fr h₀ L h m → News h₀ L h ((I, oI) :: (C, oC) :: (D, oD) :: news) → Off3 I C D news → ((@Ne Nat I C) ∧ (@Ne Nat I D) ∧ (@Ne Nat C D)) →
      wpAny (model prog w) A (eval elt (compEnvC scope cl C env)) (CompEnd h₀ L m { s₂ with heap := h, toks := tk } I oI C oC D oD S (fun y news' => news' = news ∧ y = .bool (if i = 0 then b0 else b1))) E' { s₂ with heap := h, toks := tk })
    (hRR : ∀ D C h tk m', Fr h₀ L h m → News h₀ L h ((D, set2 (!w.params.followText "set-order") b0 b1) :: news) → Off1 D news → h.Ns C m' → h₀.get? C = none → h₀.get? D = none → C ≠ L → D ≠ L → C ≠ D → (∀ p ∈ news, p.1 ≠ C) → RR (.ref D) C (.ok .next) { s₂ with heap := h, toks := tk }) :
    wpAny (model prog w) A (newSet (.type "set")) (fun acc s₃ => wpAny (model prog w) A (newFunctionEnv scope env.globals cl [] env.qual none .none (some env)) (fun cenv s₄ =>
      codeAny (model prog w) A (.compStart (.SetComp elt [⟨.Name x px, iter, [], 0⟩] scope pos) 0 (.ref I) acc { cenv with scope := relabel scope env }) (RR acc cenv.locals) s₄) E s₃) E s₂ := by
  refine new_set fun led hled => wpAny_newFunctionEnv hcell (by intro y hy; simp at hy) (fun h₁ hns₁ hsb₁ => ?_) hkind
  rw [hled] at hRR
  dsimp only at hns₁ hsb₁ ⊢
  generalize hH2 : s₂.heap.push (setObj #[] 0 (.fresh 0 0 led)) = H2 at hns₁ hsb₁ ⊢
  have hC : H2.objs.size = s₂.heap.objs.size + 1 := by rw [← hH2, Heap.size_push]
  have hDC : s₂.heap.objs.size ≠ H2.objs.size := by rw [hC]; exact Nat.ne_of_lt (Nat.lt_succ_self _)
  have below : ∀ b, b < s₂.heap.objs.size → b ≠ H2.objs.size ∧ b ≠ s₂.heap.objs.size := fun b hb => ⟨by rw [hC]; exact Nat.ne_of_lt (Nat.lt_succ_of_lt hb), Nat.ne_of_lt hb⟩
  have hDf : s₂.heap.objs.size ∉ fp := fun hm => Nat.lt_irrefl _ (hfp _ hm)
  have hCf : H2.objs.size ∉ fp := fun hm => by have := hfp _ hm; rw [hC] at this; exact Nat.lt_irrefl _ (Nat.lt_of_succ_lt this)
  have hIf : I ∈ fp := W.sub I (List.mem_singleton.mpr rfl)
  have hIlt : I < s₂.heap.objs.size := hfp I hIf
  have old : ∀ b o, s₂.heap.get? b = some o → h₁.get? b = some o := fun b o e => hsb₁.extBut b o (below b (Heap.lt_size e)).1 (Heap.get?_push_of_some _ (hH2 ▸ Heap.get?_push_of_some _ e))
  have hacc : h₁.get? s₂.heap.objs.size = some (setObj #[] 0 (.fresh 0 0 led)) := hsb₁.extBut _ _ hDC (Heap.get?_push_of_some _ (hH2 ▸ Heap.get?_push_size _ rfl))
  have hst₁ : St 0 h₁ := W.frame _ _ _ hst fun b _ o e => old b o e
  have fresh : ∀ a, s₂.heap.objs.size ≤ a → s₂.heap.get? a = none := fun a ha => by
    cases e : s₂.heap.get? a with
    | none => rfl
    | some o' => exact absurd (Heap.lt_size e) (Nat.not_lt.mpr ha)
  have fresh₀ : ∀ a, s₂.heap.objs.size ≤ a → h₀.get? a = none := fun a ha => by
    cases e : h₀.get? a with
    | none => rfl
    | some o' => have := F.keep a o' e; rw [fresh a ha] at this; cases this
  have hD₀ : h₀.get? s₂.heap.objs.size = none := fresh₀ _ (Nat.le_refl _)
  have hC₀ : h₀.get? H2.objs.size = none := fresh₀ _ (by rw [hC]; exact Nat.le_succ _)
  have hLlt : L < s₂.heap.objs.size := F.ns.lt
  have hDL : s₂.heap.objs.size ≠ L := Ne.symm (below L hLlt).2
  have hCL : H2.objs.size ≠ L := Ne.symm (below L hLlt).1
  have hCI : I ≠ H2.objs.size := (below I hIlt).1
  have hDI : I ≠ s₂.heap.objs.size := (below I hIlt).2
  have off₀ : Off3 I H2.objs.size s₂.heap.objs.size news := Off3.of fun p hp => ⟨off p hp, (below _ (Heap.lt_size (N p hp).1)).1, (below _ (Heap.lt_size (N p hp).1)).2⟩
  have off3 := off₀.mem
  have add : ∀ (i : Nat) (s' : Shared) (Q : Value → Shared → Prop) (E' : Value → Shared → Prop), i < 2 → s'.heap.get? s₂.heap.objs.size = some (setAcc led b0 b1 i) →
      (∀ h' tk, Heap.SameBut s₂.heap.objs.size s'.heap h' → h'.get? s₂.heap.objs.size = some (setAcc led b0 b1 (i + 1)) → Q .none { s' with heap := h', toks := tk }) →
      wpAny (model prog w) A (call (.builtin "set.add") [.ref s₂.heap.objs.size, .bool (if i = 0 then b0 else b1)]) Q E' s' := by
    intro i s' Q E' hi e k
    match i, hi with
    | 0, _ => exact set_add0 e k
    | 1, _ => exact set_add1 e k
  have loop : ∀ s₃ : Shared, s₃ = { s₂ with heap := h₁, toks := s₂.toks + ([] : List (Str × Value)).length } →
      codeAny (model prog w) A (.compLoop (.SetComp elt [⟨.Name x px, iter, [], 0⟩] scope pos) 0 (.ref I) (.ref s₂.heap.objs.size) (compEnvC scope cl H2.objs.size env))
        (RR (.ref s₂.heap.objs.size) H2.objs.size) s₃ := by
    rintro s₃ rfl
    refine loop_set
      (fun k s' => ∃ h' tk i m', s' = { s₂ with heap := h', toks := tk } ∧ i ≤ 2 ∧ k = 2 + 1 - i ∧ St i h' ∧ Fr h₀ L h' m ∧ h'.Ns H2.objs.size m' ∧ News h₀ L h' ((s₂.heap.objs.size, setAcc led b0 b1 i) :: news)) ?_ (2 + 1)
      ⟨h₁, _, 0, _, rfl, Nat.zero_le _, rfl, hst₁, F.keeps old, hns₁, fun p hp => ?_⟩
    · rintro k s' ⟨h', tk, i, m', rfl, hi, rfl, hst', F', hn', N'⟩
      by_cases hlt : i < 2
      · refine W.item i _ _ _ hlt hst' fun v h₂ tk₂ hPv hst₂ hk₂ => ?_
        refine wpAny_assign_Name (wpAny_storeName_local (lookup_relabel_local hx) (hn'.at' fun o e => hk₂ _ o (by simpa using Ne.symm hCI) e) (fun h₃ hn₃ hs₃ => ?_) (by simp [compEnvC, relabel, hkind]))
        have hst₃ : St (i + 1) h₃ := W.frame _ _ _ hst₂ fun b hb o e => hs₃.extBut b o (fun q => hCf (by have q' : b = H2.objs.size := q; rw [← q']; exact hb)) e
        obtain ⟨oI, heI⟩ := hIo _ _ hst₃
        obtain ⟨oC, heC, hoC⟩ := ns_obj hn₃
        have F₃ : Fr h₀ L h₃ m := (fr_but F' hk₂ hIL hI₀).change hs₃ hCL hC₀
        have N₂ : News h₀ L h₂ ((s₂.heap.objs.size, setAcc led b0 b1 i) :: news) := news_but N' hk₂ fun p hp => by
          rcases List.mem_cons.mp hp with rfl | hp
          · exact Ne.symm hDI
          · exact (off3 p hp).1
        have N₃ : News h₀ L h₃ ((I, oI) :: (H2.objs.size, oC) :: (s₂.heap.objs.size, setAcc led b0 b1 i) :: news) := fun p hp => by
          rcases List.mem_cons.mp hp with rfl | hp
          · exact ⟨heI, Ne.symm hIL, hI₀⟩
          · rcases List.mem_cons.mp hp with rfl | hp
            · exact ⟨heC, hCL, hC₀⟩
            · have z := N₂ p hp
              refine ⟨hs₃.extBut _ _ ?_ z.1, z.2⟩
              rcases List.mem_cons.mp hp with rfl | hp
              · exact hDC
              · exact (off3 p hp).2.1
        refine wpAny_mono (turn i v oI H2.objs.size oC s₂.heap.objs.size _ _ h₃ _ _ hlt hPv hoC (by simp) F₃ N₃ off₀ ⟨hCI, hDI, Ne.symm hDC⟩) (fun y s₄ h₄ => ?_) fun _ _ e => e
        obtain ⟨h₄, tk₄, news₄, rfl, F₄, N₄, off₄, hS₄, hnw, rfl⟩ := h₄
        subst hnw
        have zI := (N₄ (I, oI) List.mem_cons_self).1
        have zC := (N₄ (H2.objs.size, oC) (List.mem_cons_of_mem _ List.mem_cons_self)).1
        have zD := (N₄ (s₂.heap.objs.size, setAcc led b0 b1 i) (List.mem_cons_of_mem _ (List.mem_cons_of_mem _ List.mem_cons_self))).1
        have N₄' : News h₀ L h₄ news₄ := fun p hp => N₄ p (List.mem_cons_of_mem _ (List.mem_cons_of_mem _ (List.mem_cons_of_mem _ hp)))
        have hst₄ : St (i + 1) h₄ := hSt _ _ _ _ _ hst₃ heI zI F₄.keep N₄' hS₄
        refine add i _ _ _ hlt zD fun h₅ tk₅ hs₅ hD₅ => ?_
        refine ⟨2 + 1 - (i + 1), by omega, h₅, tk₅, i + 1, _, rfl, hlt, rfl, W.frame _ _ _ hst₄ fun b hb o e => hs₅.extBut b o (fun q => hDf (q ▸ hb)) e, F₄.change hs₅ hDL hD₀,
          (hoC.ns zC).sameBut hs₅ (Ne.symm hDC), fun p hp => ?_⟩
        rcases List.mem_cons.mp hp with rfl | hp
        · exact ⟨hD₅, hDL, hD₀⟩
        · exact ⟨hs₅.extBut _ _ (off3 p hp).2.2 (N₄' p hp).1, (N₄' p hp).2⟩
      · obtain rfl : i = 2 := Nat.le_antisymm hi (Nat.not_lt.mp hlt)
        refine W.done _ _ _ hst' fun h₂ tk₂ hk₂ => ?_
        exact hRR _ _ h₂ tk₂ _ (fr_but F' hk₂ hIL hI₀) (news_but N' hk₂ fun p hp => by
          rcases List.mem_cons.mp hp with rfl | hp
          · exact Ne.symm hDI
          · exact (off3 p hp).1) off₀.one (hn'.at' fun o e => hk₂ _ o (by simpa using Ne.symm hCI) e) hC₀ hD₀ hCL hDL (Ne.symm hDC) (fun p hp => (off3 p hp).2.1)
    · rcases List.mem_cons.mp hp with rfl | hp
      · exact ⟨hacc, hDL, hD₀⟩
      · exact ⟨old _ _ (N p hp).1, (N p hp).2⟩
  exact start_set (loop _ rfl) (W.self 0 _ _ _ hst₁ (loop _ rfl))
end
end
section
set_option maxRecDepth 100000
set_option maxHeartbeats 8000000
open Sem (wp)
section
variable {prog : Program} {w : World} {A : Around} {E : Value → Shared → Prop} {s : Shared}
/-- where the next turn begins to look -/
def nx (led : Bool) (t : SetTable) : Nat := if led then t.place.getD 0 0 + 1 else 0
theorem led_of {led : Bool} (h : (!w.params.followText "set-order") = led) : w.params.followText "set-order" = !led := by rw [← h, Bool.not_not]
theorem setNext_gives {D : Addr} {es : Array (Int × Value)} {ep slot given : Nat} {t : SetTable} {led : Bool} {Q : Option (Value × Nat) → Shared → Prop} (hD : s.heap.get? D = some (setObj es ep t)) (hf : t.fits es.size = true)
    (hled : (!w.params.followText "set-order") = led) (hp : t.plain = true) (ht : t.led = led)
    (h : ∀ r, (led = true → r = match es[SetTable.below t.place slot]?, t.place[SetTable.below t.place slot]? with
        | some (_, x), some j => some (x, j + 1)
        | _, _ => none) → (led = false → ∃ f, r = ((pickOrder f es)[given]?).map fun e => (e.2, slot)) → Q r s) : wpAny (model prog w) A (setNext D slot given ep) Q E s := by
  have h0 := led_of hled
  unfold setNext setsByText
  refine wpAny_bind (wpAny_setState_of hD rfl hf ?_)
  dsimp only
  refine wpAny_bind (wpAny_bind (wpAny_askSetting (wpAny_pure ?_)))
  show wpAny _ _ (if (w.params.followText "set-order") = true then _ else _) _ _ _
  rw [h0]
  cases led with
  | true =>
    simp only [Bool.not_true, Bool.false_eq_true, if_false]
    show wpAny _ _ (if (!t.plain && decide (es.size > 1)) = true then _ else _) _ _ _
    rw [if_neg (by rw [hp]; simp)]
    show wpAny _ _ ((if (!t.led && !es.isEmpty) = true then unsupported "set:maker-not-led" else pure ()) >>= _) _ _ _
    rw [if_neg (by rw [ht]; simp)]
    exact wpAny_bind (wpAny_pure (wpAny_pure (h _ (fun _ => rfl) (fun q => by cases q))))
  | false =>
    simp only [Bool.not_false, if_true, bne_self_eq_false, Bool.false_eq_true, if_false]
    unfold setWalk setsByText
    refine wpAny_bind ?_
    refine wpAny_bind (wpAny_setState_of hD rfl hf ?_)
    dsimp only
    refine wpAny_bind (wpAny_bind (wpAny_askSetting (wpAny_pure ?_)))
    show wpAny _ _ (if (w.params.followText "set-order") = true then _ else _) _ _ _
    rw [h0]
    simp only [Bool.not_false, if_true]
    refine wpAny_bind (wpAny_askSetting ?_)
    exact wpAny_pure (wpAny_pure (h _ (fun q => by cases q) (fun _ => ⟨_, rfl⟩)))
theorem pick_one {α : Type} (f : Nat → Nat) (e : α) : pickOrder f #[e] = #[e] := by
  simp [pickOrder, pickOrder.go, Nat.mod_one]
theorem pick_two {α : Type} (f : Nat → Nat) (a b : α) : ∃ x y, pickOrder f #[a, b] = #[x, y] := by
  rcases Nat.mod_two_eq_zero_or_one (f 0) with h | h
  · exact ⟨a, b, by simp [pickOrder, pickOrder.go, Nat.mod_one, h]⟩
  · exact ⟨b, a, by simp [pickOrder, pickOrder.go, Nat.mod_one, h]⟩
theorem setNext_one {D : Addr} {led b : Bool} {Q : Option (Value × Nat) → Shared → Prop} (hD : s.heap.get? D = some (setObj #[(hb b, .bool b)] 1 (t1 led b))) (hled : (!w.params.followText "set-order") = led)
    (h : Q (some (.bool b, nx led (t1 led b))) s) : wpAny (model prog w) A (setNext D 0 0 1) Q E s := by
  refine setNext_gives hD (t1_facts led b).2.2.1 hled (t1_facts led b).1 (t1_facts led b).2.2.2 fun r h1 h2 => ?_
  have e : r = some (.bool b, nx led (t1 led b)) := by
    cases led with
    | true => rw [h1 rfl]; cases b <;> decide +kernel
    | false => obtain ⟨f, e⟩ := h2 rfl; rw [e, pick_one]; rfl
  rw [e]; exact h
theorem setNext_oneEnd {D : Addr} {led b : Bool} {Q : Option (Value × Nat) → Shared → Prop} (hD : s.heap.get? D = some (setObj #[(hb b, .bool b)] 1 (t1 led b))) (hled : (!w.params.followText "set-order") = led)
    (h : Q none s) : wpAny (model prog w) A (setNext D (nx led (t1 led b)) 1 1) Q E s := by
  refine setNext_gives hD (t1_facts led b).2.2.1 hled (t1_facts led b).1 (t1_facts led b).2.2.2 fun r h1 h2 => ?_
  have e : r = none := by
    cases led with
    | true => rw [h1 rfl]; cases b <;> decide +kernel
    | false => obtain ⟨f, e⟩ := h2 rfl; rw [e, pick_one]; rfl
  rw [e]; exact h
theorem e2_two (led b : Bool) : ∃ x y, e2 led b = #[x, y] := by
  have := (t2_facts led b).2.2.2.2
  match h : (e2 led b).toList, (show (e2 led b).toList.length = 2 by simpa using this) with
  | [x, y], _ => exact ⟨x, y, by rw [← h, Array.toArray_toList]⟩
theorem setNext_two {D : Addr} {led b : Bool} {Q : Option (Value × Nat) → Shared → Prop} (hD : s.heap.get? D = some (setObj (e2 led b) 2 (t2 led b))) (hled : (!w.params.followText "set-order") = led)
    (h : ∀ v, Q (some (v, nx led (t2 led b))) s) : wpAny (model prog w) A (setNext D 0 0 2) Q E s := by
  refine setNext_gives hD (by rw [(t2_facts led b).2.2.2.2]; exact (t2_facts led b).2.2.1) hled (t2_facts led b).1 (t2_facts led b).2.2.2.1 fun r h1 h2 => ?_
  have e : ∃ v, r = some (v, nx led (t2 led b)) := by
    cases led with
    | true => rw [h1 rfl]; cases b <;> exact ⟨_, by rfl⟩
    | false =>
      obtain ⟨f, e⟩ := h2 rfl
      obtain ⟨x, y, e2⟩ := e2_two false b
      rw [e2] at e
      obtain ⟨x', y', e3⟩ := pick_two f x y
      rw [e3] at e
      exact ⟨x'.2, by rw [e]; rfl⟩
  obtain ⟨v, e⟩ := e
  rw [e]; exact h v
theorem setNext_two2 {D : Addr} {led b : Bool} {Q : Option (Value × Nat) → Shared → Prop} (hD : s.heap.get? D = some (setObj (e2 led b) 2 (t2 led b))) (hled : (!w.params.followText "set-order") = led)
    (h : ∀ v n, Q (some (v, n)) s) : wpAny (model prog w) A (setNext D (nx led (t2 led b)) 1 2) Q E s := by
  refine setNext_gives hD (by rw [(t2_facts led b).2.2.2.2]; exact (t2_facts led b).2.2.1) hled (t2_facts led b).1 (t2_facts led b).2.2.2.1 fun r h1 h2 => ?_
  have e : ∃ v n, r = some (v, n) := by
    cases led with
    | true => rw [h1 rfl]; cases b <;> exact ⟨_, _, by rfl⟩
    | false =>
      obtain ⟨f, e⟩ := h2 rfl
      obtain ⟨x, y, e2⟩ := e2_two false b
      rw [e2] at e
      obtain ⟨x', y', e3⟩ := pick_two f x y
      rw [e3] at e
      exact ⟨y'.2, _, by rw [e]; rfl⟩
  obtain ⟨v, n, e⟩ := e
  rw [e]; exact h v n
end
end
section
set_option maxRecDepth 100000
set_option maxHeartbeats 8000000
open Sem (wp)
theorem sit_next : Slot "set_iterator" "__next__" "set_iterator.__next__" :=
  .of (owner := "set_iterator") (n := "__next__") (by rw [typeLookup_type, builtinLookup_eq_fast]; kernel_rfl) (by decide +kernel) (by decide +kernel) (by decide +kernel)
    (by first | exact .inl (by decide +kernel) | exact .inr (by decide +kernel)) (by rw [isSubtype_type]; kernel_rfl)
theorem sit_entry : entryFor table "set_iterator.__next__" = some Builtin.«set_iterator.__next__» := entryFor_of_tree (by kernel_rfl)
theorem sit_args (a : Value) : argsOk "set_iterator.__next__" ⟨[a], []⟩ := by unfold argsOk; rw [PySem.W.Fast.signatureY_eq]; kernel_rfl
theorem set_entry_iter : entryFor table "set.__iter__" = some Builtin.«frozenset.__iter__» :=
  entryFor_alias (id' := "frozenset.__iter__") (by rw [fastTable_eq_tree]; kernel_rfl) (by first | rfl | decide +kernel | (unfold String.splitOn; simp +decide [String.splitOnAux])) (by rw [PySem.W.Fast.canonicalY_eq]; kernel_rfl) (by rw [fastTable_eq_tree]; kernel_rfl)
abbrev sitObj (slot i : Nat) (D : Addr) (n ep : Nat) : Obj := { cls := .type "set_iterator", data := .fields #[rawInt slot, rawInt i, .ref D, rawInt n, rawInt ep] }
section
variable {prog : Program} {w : World} {A : Around} {E : Value → Shared → Prop} {s : Shared}
theorem set_iter {D : Addr} {es : Array (Int × Value)} {ep : Nat} {t : SetTable} {Q : Value → Shared → Prop} (hD : s.heap.get? D = some (setObj es ep t)) (hf : t.fits es.size = true) (hp : t.plain = true)
    (h : Q (.ref s.heap.objs.size) { s with heap := s.heap.push (sitObj 0 0 D es.size ep) }) : wpAny (model prog w) A (pyIter (.ref D)) Q E s := by
  have hT : s.TypeIs (.ref D) "set" := ⟨_, hD, rfl⟩
  refine wpAny_pyIter_slot hT F.slot_set_iter (wpAny_call_entry F.slot_set_iter hT set_entry_iter ?_ (F.args_set_iter_1 _))
  unfold Builtin.«frozenset.__iter__» Builtin.Frozenset.slot0 slotArgs
  simp only [List.isEmpty_nil, Bool.not_true, Bool.false_eq_true, ↓reduceIte, bind_assoc, List.length_nil, bne_self_eq_false]
  unfold Builtin.Frozenset.addrOf Builtin.Frozenset.sizeOf
  refine wpAny_bind (wpAny_pure ?_)
  dsimp only
  refine wpAny_bind (wpAny_pure ?_)
  refine wpAny_bind (wpAny_bind (wpAny_setEntries_of hD rfl hf (wpAny_pure ?_)))
  unfold setDrawn setsByText
  refine wpAny_bind ?_
  refine wpAny_bind (wpAny_setState_of hD rfl hf ?_)
  dsimp only
  refine wpAny_bind (wpAny_bind (wpAny_askSetting (wpAny_pure ?_)))
  refine wpAny_pure ?_
  show wpAny _ _ (if (!w.params.followText "set-order" && (!t.plain && decide (es.size > 1))) = true then _ else _) _ _ _
  rw [if_neg (by rw [hp]; simp)]
  refine wpAny_bind (wpAny_pure ?_)
  refine wpAny_bind (wpAny_setEpoch_of hD rfl hf ?_)
  refine wpAny_bind ?_
  unfold newFields
  refine wpAny_newObj_type ?_
  exact wpAny_pure ⟨_, rfl, "set_iterator", _, ⟨_, Heap.get?_push_size _ rfl, rfl⟩, sit_next.lookup, h⟩
theorem sit_some {D I : Addr} {es : Array (Int × Value)} {slot i n ep : Nat} {t : SetTable} (P : Value → Nat → Prop) {Q : Option Value → Shared → Prop} (hI : s.heap.get? I = some (sitObj slot i D n ep)) (hD : s.heap.get? D = some (setObj es ep t)) (hf : t.fits es.size = true) (hn : es.size = n)
    (hnext : ∀ {A : Around} {E : Value → Shared → Prop} {Q : Option (Value × Nat) → Shared → Prop}, (∀ v k, P v k → Q (some (v, k)) s) → wpAny (model prog w) A (setNext D slot i ep) Q E s)
    (h : ∀ v k h', P v k → h'.get? I = some (sitObj k (i + 1) D n ep) → Heap.SameBut I s.heap h' → Q (some v) { s with heap := h' }) : wpAny (model prog w) A (pyNext (.ref I)) Q E s := by
  have hT : s.TypeIs (.ref I) "set_iterator" := ⟨_, hI, rfl⟩
  unfold pyNext
  refine wpAny_bind (wpAny_attempt (wpAny_callSpecial?_slot (name := Str.ofString "__next__") hT sit_next
    (wpAny_call_entry sit_next hT sit_entry ?_ (sit_args _))))
  unfold Builtin.«set_iterator.__next__» slotArgs
  simp only [List.isEmpty_nil, Bool.not_true, Bool.false_eq_true, ↓reduceIte, bind_assoc, List.length_nil, bne_self_eq_false]
  refine wpAny_bind (wpAny_pure ?_)
  unfold fieldsOf
  dsimp only
  refine wpAny_bind (wpAny_bind (wpAny_load hI (wpAny_pure ?_)))
  show wpAny _ _ (setEntries D >>= _) _ _ _
  refine wpAny_bind (wpAny_setEntries_of hD rfl hf ?_)
  show wpAny _ _ (if ((es.size : Int) != (n : Int)) = true then _ else _) _ _ _
  rw [if_neg (by rw [hn]; simp)]
  show wpAny _ _ (setNext D ((slot : Int)).toNat ((i : Int)).toNat ((ep : Int)).toNat >>= _) _ _ _
  simp only [Int.toNat_natCast]
  refine wpAny_bind (hnext fun v k hP => ?_)
  dsimp only
  refine wpAny_bind (wpAny_setField hI rfl (by simp) ?_)
  have g1 := Heap.get?_update_self (Obj.mapFields (·.setIfInBounds 0 (rawInt k))) hI rfl
  refine wpAny_bind (wpAny_setField g1 rfl (by simp [Obj.mapFields]) ?_)
  have g2 := Heap.get?_update_self (Obj.mapFields (·.setIfInBounds 1 (rawInt ((i : Int) + 1)))) g1 rfl
  refine wpAny_pure ⟨_, rfl, wpAny_pure (h v k _ hP g2 ((Heap.SameBut.update ..).trans (Heap.SameBut.update ..)))⟩
theorem sit_none {D I : Addr} {es : Array (Int × Value)} {slot i n ep : Nat} {t : SetTable} {Q : Option Value → Shared → Prop} (hh : A.handled = none) (hI : s.heap.get? I = some (sitObj slot i D n ep)) (hD : s.heap.get? D = some (setObj es ep t)) (hf : t.fits es.size = true) (hn : es.size = n)
    (hnext : ∀ {A : Around} {E : Value → Shared → Prop} {Q : Option (Value × Nat) → Shared → Prop}, Q none s → wpAny (model prog w) A (setNext D slot i ep) Q E s)
    (h : ∀ h', Heap.ExtBut I s.heap h' → Q none { s with heap := h' }) : wpAny (model prog w) A (pyNext (.ref I)) Q E s := by
  have hT : s.TypeIs (.ref I) "set_iterator" := ⟨_, hI, rfl⟩
  unfold pyNext
  refine wpAny_bind (wpAny_attempt (wpAny_callSpecial?_slot (name := Str.ofString "__next__") hT sit_next
    (wpAny_call_entry sit_next hT sit_entry ?_ (sit_args _))))
  unfold Builtin.«set_iterator.__next__» slotArgs
  simp only [List.isEmpty_nil, Bool.not_true, Bool.false_eq_true, ↓reduceIte, bind_assoc, List.length_nil, bne_self_eq_false]
  refine wpAny_bind (wpAny_pure ?_)
  unfold fieldsOf
  dsimp only
  refine wpAny_bind (wpAny_bind (wpAny_load hI (wpAny_pure ?_)))
  show wpAny _ _ (setEntries D >>= _) _ _ _
  refine wpAny_bind (wpAny_setEntries_of hD rfl hf ?_)
  show wpAny _ _ (if ((es.size : Int) != (n : Int)) = true then _ else _) _ _ _
  rw [if_neg (by rw [hn]; simp)]
  show wpAny _ _ (setNext D ((slot : Int)).toNat ((i : Int)).toNat ((ep : Int)).toNat >>= _) _ _ _
  simp only [Int.toNat_natCast]
  refine wpAny_bind (hnext ?_)
  dsimp only
  refine wpAny_bind (wpAny_setField hI rfl (by simp) ?_)
  show wpAny _ _ (newExc (.type "StopIteration") [] >>= _) _ _ _
  refine wpAny_bind ?_
  simp only [newExc, newTuple]
  refine wpAny_bind (wpAny_newObj_type ?_ (by size_fits))
  refine wpAny_bind (m := firstArgMember _ _) (wpAny_of_eq (a := Value.none) (by first | rfl | (simp only [firstArgMember]; rfl)) ?_)
  refine wpAny_newObj_type ?_ (by size_fits)
  simp only [raiseNew]
  refine wpAny_bind (wpAny_handled ?_)
  rw [show A.in1.handled = none from hh]
  refine wpAny_bind (wpAny_pure (wpAny_throw ?_))
  refine wpAny_bind (wpAny_isInstance (T := "StopIteration") (b := true) ⟨_, Heap.get?_push_size _ rfl, rfl⟩ isSubtype_stop ?_)
  exact wpAny_pure (h _ (((Heap.SameBut.update ..).extBut.push _).push _))
end
end
section
set_option maxRecDepth 100000
set_option maxHeartbeats 8000000
open Sem (wp)
section
variable {prog : Program} {w : World} {A : Around} {E : Value → Shared → Prop} {s : Shared} {h₀ : Heap} {L : Addr} {m : Str → Option Value} {news : List (Addr × Obj)} {env : Env}
theorem not_iter_set {D : Addr} {Q : Bool → Shared → Prop} (hT : s.TypeIs (.ref D) "set") (h : Q false s) : wpAny (model prog w) A (notIterableAtAll (.ref D)) Q E s := by
  unfold notIterableAtAll
  exact wpAny_bind (wpAny_specialOf hT F.slot_set_iter.lookup (wpAny_pure h))
theorem unpack_one {D : Addr} {led b : Bool} {Q : List Value → Shared → Prop} (hh : A.handled = none) (hD : s.heap.get? D = some (setObj #[(hb b, .bool b)] 1 (t1 led b))) (hled : (!w.params.followText "set-order") = led)
    (h : ∀ h', (∀ c o, s.heap.get? c = some o → h'.get? c = some o) → Q [.bool b] { s with heap := h' }) : wpAny (model prog w) A (unpackItems (.ref D) 1 none) Q E s := by
  have hDI : D ≠ s.heap.objs.size := Nat.ne_of_lt (Heap.lt_size hD)
  have f := t1_facts led b
  unfold unpackItems
  refine wpAny_bind (not_iter_set ⟨_, hD, rfl⟩ ?_)
  simp only [Bool.false_eq_true, if_false]
  refine wpAny_bind (wpAny_holding (set_iter hD f.2.2.1 f.1 ?_))
  show wpAny _ _ (holding [Value.ref s.heap.objs.size] (pyNext (.ref s.heap.objs.size) >>= _) >>= _) _ _ _
  have hD₁ : (s.heap.push (sitObj 0 0 D (#[(hb b, Value.bool b)] : Array (Int × Value)).size 1)).get? D = some (setObj #[(hb b, .bool b)] 1 (t1 led b)) := Heap.get?_push_of_some _ hD
  refine wpAny_bind (wpAny_holding (wpAny_bind (sit_some (s := { s with heap := _ }) (fun v k => v = .bool b ∧ k = nx led (t1 led b)) (Heap.get?_push_size _ rfl) hD₁ f.2.2.1 rfl (fun q => setNext_one (s := { s with heap := _ }) hD₁ hled (q _ _ ⟨rfl, rfl⟩)) fun v k h₁ hP hI₁ hs₁ => ?_)))
  obtain ⟨rfl, rfl⟩ := hP
  refine wpAny_bind (wpAny_holding (wpAny_pure (wpAny_pure ?_)))
  rw [if_neg (by simp)]
  have hD₂ : h₁.get? D = some (setObj #[(hb b, .bool b)] 1 (t1 led b)) := hs₁.extBut _ _ hDI hD₁
  refine wpAny_bind (wpAny_holding (sit_none (s := { s with heap := h₁ }) hh hI₁ hD₂ f.2.2.1 rfl (fun q => setNext_oneEnd (s := { s with heap := h₁ }) hD₂ hled q) fun h₂ hs₂ => ?_))
  simp only [Option.isSome_none, Bool.false_eq_true, if_false]
  refine wpAny_pure (h h₂ fun c o e => ?_)
  have hc : c ≠ s.heap.objs.size := Nat.ne_of_lt (Heap.lt_size e)
  exact hs₂ _ _ hc (hs₁.extBut _ _ hc (Heap.get?_push_of_some _ e))
theorem unpack_two {D : Addr} {led b : Bool} {Q : List Value → Shared → Prop} (hh : A.handled = none) (hD : s.heap.get? D = some (setObj (e2 led b) 2 (t2 led b))) (hled : (!w.params.followText "set-order") = led)
    (h : ∀ h₁ h' tk e, (∀ c o, s.heap.get? c = some o → h₁.get? c = some o) → Heap.NewExc h₁ h' e "ValueError" → E (.ref e) { s with heap := h', toks := tk }) : wpAny (model prog w) A (unpackItems (.ref D) 1 none) Q E s := by
  have hDI : D ≠ s.heap.objs.size := Nat.ne_of_lt (Heap.lt_size hD)
  have f := t2_facts led b
  have hf : (t2 led b).fits (e2 led b).size = true := by rw [f.2.2.2.2]; exact f.2.2.1
  unfold unpackItems
  refine wpAny_bind (not_iter_set ⟨_, hD, rfl⟩ ?_)
  simp only [Bool.false_eq_true, if_false]
  refine wpAny_bind (wpAny_holding (set_iter hD hf f.1 ?_))
  show wpAny _ _ (holding [Value.ref s.heap.objs.size] (pyNext (.ref s.heap.objs.size) >>= _) >>= _) _ _ _
  have hD₁ : (s.heap.push (sitObj 0 0 D (e2 led b).size 2)).get? D = some (setObj (e2 led b) 2 (t2 led b)) := Heap.get?_push_of_some _ hD
  refine wpAny_bind (wpAny_holding (wpAny_bind (sit_some (s := { s with heap := _ }) (fun v k => k = nx led (t2 led b)) (Heap.get?_push_size _ rfl) hD₁ hf rfl (fun q => setNext_two (s := { s with heap := _ }) hD₁ hled fun v => q _ _ rfl) fun v k h₁ hP hI₁ hs₁ => ?_)))
  subst hP
  refine wpAny_bind (wpAny_holding (wpAny_pure (wpAny_pure ?_)))
  rw [if_neg (by simp)]
  have hD₂ : h₁.get? D = some (setObj (e2 led b) 2 (t2 led b)) := hs₁.extBut _ _ hDI hD₁
  refine wpAny_bind (wpAny_holding (sit_some (s := { s with heap := h₁ }) (fun _ _ => True) hI₁ hD₂ hf rfl (fun q => setNext_two2 (s := { s with heap := h₁ }) hD₂ hled fun v n => q _ _ trivial) fun v' k' h₂ _ hI₂ hs₂ => ?_))
  simp only [Option.isSome_some, if_true]
  refine wpAny_bind (wpAny_rule ?_)
  refine wpAny_bind (wpAny_raiseErrorMade (s := { s with heap := h₂ }) plainExc_ValueError hh (fun h' tk e hx => h h₂ h' tk e (fun c o e' => ?_) hx) ?_)
  · have hc : c ≠ s.heap.objs.size := Nat.ne_of_lt (Heap.lt_size e')
    exact hs₂.extBut _ _ hc (hs₁.extBut _ _ hc (Heap.get?_push_of_some _ e'))
  · decide +kernel
/-- x, = a set of one -/
theorem assign_set1 {D : Addr} {b c : Bool} {x : Str} {px pos : Pos} {k : Nat} {Q : Unit → Shared → Prop} (hh : A.handled = none) (F : Fr h₀ L s.heap m) (N : News h₀ L s.heap news) (hD : (D, set2 (!w.params.followText "set-order") b c) ∈ news) (hbc : c = b)
    (h : ∀ h', Fr h₀ L h' m → News h₀ L h' news → wpAny (model prog w) A (assign (.Name x px) env (.bool b)) Q E { s with heap := h' }) :
    wpAny (model prog w) A (assign (.Tuple [.Name x px] k pos) env (.ref D)) Q E s := by
  have hD' := (N _ hD).1
  rw [set2, if_pos hbc] at hD'
  rw [arm_assign_Tuple]
  refine wpAny_bind (wpAny_standAt ?_)
  unfold unpack
  refine wpAny_bind (wpAny_holding (unpack_one hh hD' rfl fun h' kp => ?_))
  show wpAny _ _ (holding [] (assign (.Name x px) env (.bool b)) >>= _) _ _ _
  refine wpAny_bind (wpAny_holding (wpAny_mono (h h' (F.keeps kp) (N.grown kp)) (fun _ _ q => ?_) fun _ _ e => e))
  exact wpAny_pure q
/-- x, = a set of two -/
theorem assign_set2 {D : Addr} {b c : Bool} {x : Str} {px pos : Pos} {k : Nat} {Q : Unit → Shared → Prop} (hh : A.handled = none) (F : Fr h₀ L s.heap m) (N : News h₀ L s.heap news) (hD : (D, set2 (!w.params.followText "set-order") b c) ∈ news) (hbc : c ≠ b)
    (h : ∀ h₁ h' tk e, Fr h₀ L h₁ m → News h₀ L h₁ news → Heap.NewExc h₁ h' e "ValueError" → E (.ref e) { s with heap := h', toks := tk }) :
    wpAny (model prog w) A (assign (.Tuple [.Name x px] k pos) env (.ref D)) Q E s := by
  have hD' := (N _ hD).1
  rw [set2, if_neg hbc] at hD'
  rw [arm_assign_Tuple]
  refine wpAny_bind (wpAny_standAt ?_)
  unfold unpack
  exact wpAny_bind (wpAny_holding (unpack_two hh hD' rfl fun h₁ h' tk e kp hx => h h₁ h' tk e (F.keeps kp) (N.grown kp) hx))
end
end
section
set_option maxRecDepth 100000
set_option maxHeartbeats 8000000
open Sem (wp)
open LCg
section
variable {prog : Program} {w : World} {A : Around} {E : Value → Shared → Prop} {s : Shared} {h₀ : Heap} {L : Addr} {m : Str → Option Value} {env : Env}
/-- a set comprehension's source that is a tuple of two texts of the ledger -/
def SetSrc (prog : Program) (w : World) (A : Around) (h₀ : Heap) (L : Addr) (m : Str → Option Value) (env : Env) (elt : PySem.Expr) (x : Str) (scope : Scope) (cl : List (Str × Addr)) (g : Str → Bool) (Q : Value → Shared → Prop) (xv : Value) (s₁ : Shared) : Prop :=
  ∃ ax p q t u k news, xv = .ref ax ∧ A.handled = none ∧ Fr h₀ L s₁.heap m ∧ News h₀ L s₁.heap news ∧ (ax, tupOf [.str p t, .str q u] k) ∈ news ∧
    (∀ y ty I oI C oC D oD m₂ h tk (E' : Value → Shared → Prop), (y = p ∨ y = q) → NsObj oC m₂ → m₂ x = some (.str y ty) → Fr h₀ L h m → News h₀ L h ((I, oI) :: (C, oC) :: (D, oD) :: news) → Off3 I C D news → ((@Ne Nat I C) ∧ (@Ne Nat I D) ∧ (@Ne Nat C D)) →
      wpAny (model prog w) A (eval elt (compEnvC scope cl C env)) (CompEnd h₀ L m { s₁ with heap := h, toks := tk } I oI C oC D oD (fun nw => (ax, tupOf [.str p t, .str q u] k) ∈ nw) (fun y' news' => news' = news ∧ y' = .bool (g y))) E' { s₁ with heap := h, toks := tk }) ∧
    ∀ D h tk, Fr h₀ L h m → News h₀ L h ((D, set2 (!w.params.followText "set-order") (g p) (g q)) :: news) → Off1 D news → Q (.ref D) { s₁ with heap := h, toks := tk }
theorem SetSrc.intro {elt : PySem.Expr} {x : Str} {scope : Scope} {cl : List (Str × Addr)} {g : Str → Bool} {Q : Value → Shared → Prop} {ax : Addr} {p q : Str} {t u : Tok} {k : Nat} {news : List (Addr × Obj)} {s₁ : Shared}
    (hh : A.handled = none) (F : Fr h₀ L s₁.heap m) (N : News h₀ L s₁.heap news) (hm : (ax, tupOf [.str p t, .str q u] k) ∈ news)
    (turn : ∀ y ty I oI C oC D oD m₂ h tk (E' : Value → Shared → Prop), (y = p ∨ y = q) → NsObj oC m₂ → m₂ x = some (.str y ty) → Fr h₀ L h m → News h₀ L h ((I, oI) :: (C, oC) :: (D, oD) :: news) → Off3 I C D news → ((@Ne Nat I C) ∧ (@Ne Nat I D) ∧ (@Ne Nat C D)) →
      wpAny (model prog w) A (eval elt (compEnvC scope cl C env)) (CompEnd h₀ L m { s₁ with heap := h, toks := tk } I oI C oC D oD (fun nw => (ax, tupOf [.str p t, .str q u] k) ∈ nw) (fun y' news' => news' = news ∧ y' = .bool (g y))) E' { s₁ with heap := h, toks := tk })
    (fin : ∀ D h tk, Fr h₀ L h m → News h₀ L h ((D, set2 (!w.params.followText "set-order") (g p) (g q)) :: news) → Off1 D news → Q (.ref D) { s₁ with heap := h, toks := tk }) :
    SetSrc prog w A h₀ L m env elt x scope cl g Q (.ref ax) s₁ := ⟨ax, p, q, t, u, k, news, rfl, hh, F, N, hm, turn, fin⟩
theorem eval_SetComp (elt : PySem.Expr) (gens : List Comprehension) (scope : Scope) (pos : Pos) : eval (.SetComp elt gens scope pos) env =
    comprehension (.SetComp elt gens scope pos) scope env (firstIterPos gens pos) (newSet (.type "set")) (firstAsync gens) (firstIter gens env) := rfl
theorem SetComp_tup {elt iter : PySem.Expr} {x : Str} {px : Pos} {scope : Scope} {cl : List (Str × Addr)} {pos : Pos} {Q : Value → Shared → Prop} (g : Str → Bool) (_F₀ : Fr h₀ L s.heap m)
    (hclos : closureFor scope env = pure cl) (hcell : ∀ y ∈ scope.names, y.2 ≠ .cell) (hkind : scope.kind = .function)
    (hnames : ∀ y ∈ scope.names, y.2 = .local → scope.names.lookup y.1 = some .local) (hx : scope.names.lookup x = some .local)
    (h : wpAny (model prog w) A (eval iter env) (SetSrc prog w A h₀ L m env elt x scope cl g Q) E s)
    (hs : ∀ x, foldedSetIterable iter env x = pure x := by intro _; rfl) :
    wpAny (model prog w) A (eval (.SetComp elt [⟨.Name x px, iter, [], 0⟩] scope pos) env) Q E s := by
  rw [eval_SetComp]
  refine wpAny_comprehension_free (use := none) rfl hs hclos hkind hnames (wpAny_mono h (fun xv s₁ h₁ => ?_) fun _ _ e => e)
  obtain ⟨ax, p, q, t, u, k, news, rfl, hh, F, N, hm, turn, fin⟩ := h₁
  have hl : s₁.heap.IsTuple ax (List.toArray [.str p t, .str q u]) := ⟨_, (N _ hm).1, rfl, _, rfl⟩
  have hlt : ax < s₁.heap.objs.size := Heap.lt_size (N _ hm).1
  refine wpAny_pyIter_tuple hl ?_
  have W := Walks.tuple (prog := prog) (w := w) (A := A) hh s₁.heap.objs.size ax (Nat.ne_of_lt hlt) (List.toArray [.str p t, .str q u])
  have e1 : (List.toArray [Value.str p t, .str q u]).size = 2 := rfl
  rw [e1] at W
  have up : ∀ b o, s₁.heap.get? b = some o → (s₁.heap.push { cls := .type "tuple_iterator", data := .fields #[.ref ax, .int 0 0] }).get? b = some o := fun b o e => Heap.get?_push_of_some _ e
  refine set_block (b0 := g p) (b1 := g q) (S := fun nw => (ax, tupOf [.str p t, .str q u] k) ∈ nw) W (fun i h st => by obtain ⟨o, e, _⟩ := st.1; exact ⟨o, e⟩) tup_st hcell hkind hx ⟨⟨_, Heap.get?_push_size _ rfl, rfl, rfl⟩, hl.push _⟩ (fun b hb => ?_)
    (F.keeps up) (N.grown up) (Nat.ne_of_lt F.ns.lt) (next_is_new F) (fun p hp => Nat.ne_of_lt (Heap.lt_size (N p hp).1)) hm (fun i v oI C oC D oD m₂ h tk E' hi hv hC hx' F' N' off' ne' => ?_) ?_
  · show b < (s₁.heap.push _).objs.size
    rw [Heap.size_push]
    rcases List.mem_cons.mp hb with rfl | hb
    · exact Nat.lt_succ_self _
    · rw [List.mem_singleton.mp hb]; exact Nat.lt_succ_of_lt hlt
  · match i, hi with
    | 0, _ =>
      have ev : v = .str p t := (Option.some.inj hv).symm
      subst ev
      exact turn p t _ _ _ _ _ _ _ _ _ _ (.inl rfl) hC hx' F' N' off' ne'
    | 1, _ =>
      have ev : v = .str q u := (Option.some.inj hv).symm
      subst ev
      exact turn q u _ _ _ _ _ _ _ _ _ _ (.inr rfl) hC hx' F' N' off' ne'
  · intro D C h tk m' F' N' o1 hn hC₀ hD₀ hCL hDL hCD offC
    refine ⟨m', hn, fun h'' hs'' => fin D h'' tk (F'.change hs'' hCL hC₀) (fun p hp => ?_) o1⟩
    refine ⟨hs''.extBut _ _ ?_ (N' p hp).1, (N' p hp).2⟩
    rcases List.mem_cons.mp hp with rfl | hp
    · exact Ne.symm hCD
    · exact offC p hp
end
end
section
set_option maxRecDepth 100000
set_option maxHeartbeats 8000000
theorem len_of_split {x p : Str} (hx : x.length ≤ 60000) (h : p ∈ Txt.split x (Str.ofString "/")) : p.length ≤ 60000 := by
  have h1 := wt_mem h
  have h2 := split_wt x
  omega
theorem len0 {p : Str} (h : (p.length : Int) = 0) : p = Str.ofString "" := by
  have h' : p.cps.size = 0 := by simpa [Str.length] using h
  have e0 : (Str.ofString "").cps = #[] := by decide +kernel
  obtain ⟨c⟩ := p
  have : c = #[] := Array.size_eq_zero_iff.mp h'
  subst this
  have : (⟨#[]⟩ : Str) = Str.ofString "" := by decide +kernel
  exact this
theorem solid_t {p : Str} (h1 : (p.length : Int) ≠ 0) (h2 : (p != Str.ofString ".") = true) : (!(p == Str.ofString "" || p == Str.ofString ".")) = true := by
  have e0 : (Str.ofString "").length = 0 := by decide +kernel
  have a : (p == Str.ofString "") = false := by
    cases q : p == Str.ofString "" with
    | false => rfl
    | true => rw [eq_of_beq q, e0] at h1; exact absurd rfl h1
  have b : (p == Str.ofString ".") = false := by simpa using h2
  rw [a, b]; rfl
theorem solid_f1 {p : Str} (h1 : (p.length : Int) = 0) : (!(p == Str.ofString "" || p == Str.ofString ".")) = false := by
  rw [len0 h1]; decide +kernel
theorem solid_f2 {p : Str} (h2 : (p != Str.ofString ".") = false) : (!(p == Str.ofString "" || p == Str.ofString ".")) = false := by
  have : p = Str.ofString "." := by simpa using h2
  rw [this]; decide +kernel
end
section
set_option maxRecDepth 100000
set_option maxHeartbeats 8000000
open Sem (wp)
open AutoSeq1 (wpAny_loadPart')
/-- the order of two rows -/
def lexLt : List Str → List Str → Bool
  | [], [] => false
  | [], _ :: _ => true
  | _ :: _, [] => false
  | x :: a, y :: b => if x = y then lexLt a b else decide (x.cps.toList < y.cps.toList)
theorem lexLt_step {ss ts : List Str} {i : Nat} {x y : Str} (hx : ss[i]? = some x) (hy : ts[i]? = some y) : lexLt (ss.drop i) (ts.drop i) = if x = y then lexLt (ss.drop (i + 1)) (ts.drop (i + 1)) else decide (x.cps.toList < y.cps.toList) := by
  obtain ⟨h1, rfl⟩ := List.getElem?_eq_some_iff.mp hx
  obtain ⟨h2, rfl⟩ := List.getElem?_eq_some_iff.mp hy
  rw [List.drop_eq_getElem_cons h1, List.drop_eq_getElem_cons h2, lexLt]
theorem lexLt_end {ss ts : List Str} {i : Nat} (h : ss[i]? = none ∨ ts[i]? = none) (h1 : i ≤ ss.length) (h2 : i ≤ ts.length) : lexLt (ss.drop i) (ts.drop i) = decide (ss.length < ts.length) := by
  rcases h with h | h
  · have e : ss.length = i := Nat.le_antisymm (List.getElem?_eq_none_iff.mp h) h1
    rw [List.drop_of_length_le (by omega)]
    cases q : ts.drop i with
    | nil =>
      have : ts.length ≤ i := List.drop_eq_nil_iff.mp q
      simp [lexLt]; omega
    | cons a r =>
      have : ¬ ts.length ≤ i := fun z => by rw [List.drop_of_length_le z] at q; cases q
      simp [lexLt]; omega
  · have e : ts.length = i := Nat.le_antisymm (List.getElem?_eq_none_iff.mp h) h2
    rw [List.drop_of_length_le (l := ts) (by omega)]
    cases q : ss.drop i with
    | nil => simp [lexLt]; omega
    | cons a r => simp [lexLt]; omega
def cmpV (gt : Bool) (ss ts : List Str) : Bool := if gt then lexLt ts ss else lexLt ss ts
section
variable {prog : Program} {w : World} {A : Around} {E : Value → Shared → Prop} {s : Shared}
theorem strs_none {us : List Value} {ss : List Str} (h : StrsAre us ss) {i : Nat} (e : us[i]? = none) : ss[i]? = none := by
  rw [List.getElem?_eq_none_iff] at e ⊢
  rw [← strs_len h]; exact e
theorem cmp_loop (l b : Addr) (us vs : List Value) (ss ts : List Str) (n n2 : Nat) (hs : StrsAre us ss) (ht : StrsAre vs ts) (gt : Bool) (k : Nat) :
    ∀ i : Nat, ss.length - i = k → i ≤ ss.length → i ≤ ts.length → Meets (Builtin.«list.__eq__.loop» ⟨[.ref l, .ref b, rawInt i, rawInt (if gt then 4 else 0)], []⟩)
      (fun _ R s => s.heap.get? l = some (listOf us.toArray n) ∧ s.heap.get? b = some (listOf vs.toArray n2) ∧
        R (.ok (.ret (.bool (cmpV gt (ss.drop i) (ts.drop i))))) s) := by
  induction k using Nat.strongRecOn with
  | ind k ih0 =>
    intro i hk h1 h2 prog w A R s h
    have ih : ∀ i' : Nat, ss.length - i' < k → i' ≤ ss.length → i' ≤ ts.length → Meets (Builtin.«list.__eq__.loop» ⟨[.ref l, .ref b, rawInt i', rawInt (if gt then 4 else 0)], []⟩)
      (fun _ R s => s.heap.get? l = some (listOf us.toArray n) ∧ s.heap.get? b = some (listOf vs.toArray n2) ∧
        R (.ok (.ret (.bool (cmpV gt (ss.drop i') (ts.drop i'))))) s) := fun i' hi => ih0 _ hi i' rfl
    obtain ⟨hp, g, d, tk, os⟩ := s; obtain ⟨hl, hb, h⟩ := h
    have a1 : us.toArray[i]? = us[i]? := by simp
    have a2 : vs.toArray[i]? = vs[i]? := by simp
    cases gt
    · wp_walk using wpAny_loadPart' hl, wpAny_loadPart' hb
      rw [Int.toNat_natCast, a1, a2]
      cases hx : us[i]? with
      | none =>
        have e := strs_none hs hx
        wp_walk using wpAny_loadPart' hl, wpAny_loadPart' hb
        show R (.ok (.ret (.bool (decide (us.toArray.size < vs.toArray.size))))) _
        rw [show us.toArray.size = ss.length by simp [strs_len hs], show vs.toArray.size = ts.length by simp [strs_len ht]]
        rw [cmpV, if_neg (by decide), lexLt_end (.inl e) h1 h2] at h
        exact h
      | some v =>
        obtain ⟨x, t, rfl, ex⟩ := strs_get hs hx
        cases hy : vs[i]? with
        | none =>
          have e := strs_none ht hy
          wp_walk using wpAny_loadPart' hl, wpAny_loadPart' hb
          show R (.ok (.ret (.bool (decide (us.toArray.size < vs.toArray.size))))) _
          rw [show us.toArray.size = ss.length by simp [strs_len hs], show vs.toArray.size = ts.length by simp [strs_len ht]]
          rw [cmpV, if_neg (by decide), lexLt_end (.inr e) h1 h2] at h
          exact h
        | some v' =>
          obtain ⟨y, u, rfl, ey⟩ := strs_get ht hy
          have hlt : i < ss.length := (List.getElem?_eq_some_iff.mp ex).1
          have hlt2 : i < ts.length := (List.getElem?_eq_some_iff.mp ey).1
          dsimp only
          refine wpAny_bind (wpAny_eqBool_str ?_)
          rw [cmpV, if_neg (by decide), lexLt_step ex ey] at h
          by_cases hxy : x = y
          · rw [if_pos (by simp [hxy])]
            rw [if_pos hxy] at h
            refine wpAny_pure ⟨plainId_quiet MeetsSeq3.plain_eq_loop _, codeAny_builtin MeetsSeq3.entry_eq_loop (by
              rw [Around.under_plainId MeetsSeq3.plain_eq_loop _]
              exact ih (i + 1) (by omega) hlt hlt2 prog w A R _ ⟨hl, hb, by rw [cmpV, if_neg (by decide)]; exact h⟩)⟩
          · rw [if_neg (by simp [hxy])]
            rw [if_neg hxy] at h
            wp_walk using wpAny_loadPart' hl, wpAny_loadPart' hb
            rw [a1, a2, hx, hy]
            dsimp only
            show wpAny _ _ (compareOp .Lt (.str x t) (.str y u) >>= _) _ _ _
            refine wpAny_bind (lt_str ?_)
            exact wpAny_pure h
    · wp_walk using wpAny_loadPart' hl, wpAny_loadPart' hb
      rw [Int.toNat_natCast, a1, a2]
      cases hx : us[i]? with
      | none =>
        have e := strs_none hs hx
        wp_walk using wpAny_loadPart' hl, wpAny_loadPart' hb
        show R (.ok (.ret (.bool (decide (us.toArray.size > vs.toArray.size))))) _
        rw [show us.toArray.size = ss.length by simp [strs_len hs], show vs.toArray.size = ts.length by simp [strs_len ht]]
        rw [cmpV, if_pos rfl, lexLt_end (.inr e) h2 h1] at h
        exact h
      | some v =>
        obtain ⟨x, t, rfl, ex⟩ := strs_get hs hx
        cases hy : vs[i]? with
        | none =>
          have e := strs_none ht hy
          wp_walk using wpAny_loadPart' hl, wpAny_loadPart' hb
          show R (.ok (.ret (.bool (decide (us.toArray.size > vs.toArray.size))))) _
          rw [show us.toArray.size = ss.length by simp [strs_len hs], show vs.toArray.size = ts.length by simp [strs_len ht]]
          rw [cmpV, if_pos rfl, lexLt_end (.inl e) h2 h1] at h
          exact h
        | some v' =>
          obtain ⟨y, u, rfl, ey⟩ := strs_get ht hy
          have hlt : i < ss.length := (List.getElem?_eq_some_iff.mp ex).1
          have hlt2 : i < ts.length := (List.getElem?_eq_some_iff.mp ey).1
          dsimp only
          refine wpAny_bind (wpAny_eqBool_str ?_)
          rw [cmpV, if_pos rfl, lexLt_step ey ex] at h
          by_cases hxy : x = y
          · rw [if_pos (by simp [hxy])]
            rw [if_pos hxy.symm] at h
            refine wpAny_pure ⟨plainId_quiet MeetsSeq3.plain_eq_loop _, codeAny_builtin MeetsSeq3.entry_eq_loop (by
              rw [Around.under_plainId MeetsSeq3.plain_eq_loop _]
              exact ih (i + 1) (by omega) hlt hlt2 prog w A R _ ⟨hl, hb, by rw [cmpV, if_pos rfl]; exact h⟩)⟩
          · rw [if_neg (by simp [hxy])]
            rw [if_neg (fun q => hxy q.symm)] at h
            wp_walk using wpAny_loadPart' hl, wpAny_loadPart' hb
            rw [a1, a2, hx, hy]
            dsimp only
            show wpAny _ _ (compareOp .Gt (.str x t) (.str y u) >>= _) _ _ _
            refine wpAny_bind (P.gt_str ?_)
            exact wpAny_pure h
theorem list_lt (l b : Addr) (us vs : List Value) (ss ts : List Str) (n n2 : Nat) (hs : StrsAre us ss) (ht : StrsAre vs ts) : Meets (Builtin.«list.__lt__» ⟨[.ref l, .ref b], []⟩)
      (fun _ R s => s.heap.get? l = some (listOf us.toArray n) ∧ s.heap.get? b = some (listOf vs.toArray n2) ∧ R (.ok (.ret (.bool (lexLt ss ts)))) s) := fun prog w A R s h => by
  obtain ⟨hp, g, d, tk, os⟩ := s; obtain ⟨hl, hb, h⟩ := h
  have hT : (⟨hp, g, d, tk, os⟩ : Shared).TypeIs (.ref b) "list" := ⟨_, hb, rfl⟩
  have f3 := AutoSeq1.sub_list_list
  wp_walk
  exact ⟨plainId_quiet MeetsSeq3.plain_eq_loop _, codeAny_builtin MeetsSeq3.entry_eq_loop (by
    rw [Around.under_plainId MeetsSeq3.plain_eq_loop _]
    exact cmp_loop l b us vs ss ts n n2 hs ht false _ 0 rfl (Nat.zero_le _) (Nat.zero_le _) prog w A R _ ⟨hl, hb, h⟩)⟩
theorem list_gt (l b : Addr) (us vs : List Value) (ss ts : List Str) (n n2 : Nat) (hs : StrsAre us ss) (ht : StrsAre vs ts) : Meets (Builtin.«list.__gt__» ⟨[.ref l, .ref b], []⟩)
      (fun _ R s => s.heap.get? l = some (listOf us.toArray n) ∧ s.heap.get? b = some (listOf vs.toArray n2) ∧ R (.ok (.ret (.bool (lexLt ts ss)))) s) := fun prog w A R s h => by
  obtain ⟨hp, g, d, tk, os⟩ := s; obtain ⟨hl, hb, h⟩ := h
  have hT : (⟨hp, g, d, tk, os⟩ : Shared).TypeIs (.ref b) "list" := ⟨_, hb, rfl⟩
  have f3 := AutoSeq1.sub_list_list
  wp_walk
  exact ⟨plainId_quiet MeetsSeq3.plain_eq_loop _, codeAny_builtin MeetsSeq3.entry_eq_loop (by
    rw [Around.under_plainId MeetsSeq3.plain_eq_loop _]
    exact cmp_loop l b us vs ss ts n n2 hs ht true _ 0 rfl (Nat.zero_le _) (Nat.zero_le _) prog w A R _ ⟨hl, hb, h⟩)⟩
theorem rc_lt {l b : Addr} {us vs : List Value} {ss ts : List Str} {n n2 : Nat} {Q : Value → Shared → Prop} (hs : StrsAre us ss) (ht : StrsAre vs ts) (hl : s.heap.get? l = some (listOf us.toArray n)) (hb : s.heap.get? b = some (listOf vs.toArray n2)) (hu : A.units < cLine)
    (h : Q (.bool (lexLt ss ts)) s) : wpAny (model prog w) A (richCompare .Lt (.ref l) (.ref b)) Q E s :=
  richCompare_meets_room (T := "list") ⟨_, hl, rfl⟩ ⟨_, hb, rfl⟩ F.slot_list_lt F.entry_list_lt (F.args_list_lt_2 _ _) (list_lt l b us vs ss ts n n2 hs ht) ⟨hl, hb, (fun e => by cases e), h⟩ hu
theorem rc_gt {l b : Addr} {us vs : List Value} {ss ts : List Str} {n n2 : Nat} {Q : Value → Shared → Prop} (hs : StrsAre us ss) (ht : StrsAre vs ts) (hl : s.heap.get? l = some (listOf us.toArray n)) (hb : s.heap.get? b = some (listOf vs.toArray n2)) (hu : A.units < cLine)
    (h : Q (.bool (lexLt ts ss)) s) : wpAny (model prog w) A (richCompare .Gt (.ref l) (.ref b)) Q E s :=
  richCompare_meets_room (T := "list") ⟨_, hl, rfl⟩ ⟨_, hb, rfl⟩ F.slot_list_gt F.entry_list_gt (F.args_list_gt_2 _ _) (list_gt l b us vs ss ts n n2 hs ht) ⟨hl, hb, (fun e => by cases e), h⟩ hu
end
end
section
set_option maxRecDepth 100000
set_option maxHeartbeats 8000000
open Sem (wp)
section
variable {prog : Program} {w : World} {A : Around} {E : Value → Shared → Prop} {s : Shared}
/-- min of a list of two rows -/
theorem two_min {l a b : Addr} {us vs : List Value} {ss ts : List Str} {n n2 : Nat} {Q : Value → Shared → Prop} (hh : A.handled = none) (hl : s.heap.IsList l (List.toArray [.ref a, .ref b])) (hs : StrsAre us ss) (ht : StrsAre vs ts)
    (ha : s.heap.get? a = some (listOf us.toArray n)) (hb : s.heap.get? b = some (listOf vs.toArray n2)) (hu : A.units + 8 < cLine)
    (h : ∀ h' tk, (∀ c o, s.heap.get? c = some o → h'.get? c = some o) → Q (.ref (if lexLt ts ss = true then b else a)) { s with heap := h', toks := tk }) :
    wpAny (model prog w) A (call (.builtin "min") [.ref l]) Q E s := by
  have hname : (toString "min" ++ toString ".loop" : String) = "min.loop" := by decide
  refine call_function_tree F.kind_min F.plain_min F.entry_min (F.args_min1 _) ?_
  show wpAny _ A.in1 (Builtin.Builtins.bindParams "min" ["key", "default"] 0 ⟨[], []⟩ >>= _) _ _ s
  refine wpAny_bind (wpAny_of_eq (show Builtin.Builtins.bindParams "min" ["key", "default"] 0 ⟨[], []⟩ = pure [none, none] from rfl) ?_)
  refine wpAny_bind (wpAny_pure ?_)
  refine wpAny_bind (wpAny_pyIter_list hl ?_)
  obtain ⟨ol, hol, _⟩ := id hl
  have hne : l ≠ s.heap.objs.size := Nat.ne_of_lt (Heap.lt_size hol)
  have W := Walks.list (prog := prog) (w := w) (A := A.in1) hh s.heap.objs.size l hne (List.toArray [.ref a, .ref b])
  generalize hI : s.heap.objs.size = I at *
  have notI : ∀ c o, s.heap.get? c = some o → c ≠ I := fun c o e => hI ▸ Nat.ne_of_lt (Heap.lt_size e)
  refine wpAny_bind (wpAny_newObj_type ?_)
  dsimp only
  have k0 : ∀ c o, s.heap.get? c = some o → ((s.heap.push { cls := .type "list_iterator", data := .fields #[.ref l, .int 0 0] }).push { cls := .type "list", data := .seq ([] : List Value).toArray }).get? c = some o := fun c o e => Heap.get?_push_of_some _ (Heap.get?_push_of_some _ e)
  have i0 : ((s.heap.push { cls := .type "list_iterator", data := .fields #[.ref l, .int 0 0] }).push { cls := .type "list", data := .seq ([] : List Value).toArray }).IsListIter I l 0 := ⟨_, Heap.get?_push_of_some _ (hI ▸ Heap.get?_push_size _ rfl), rfl, rfl⟩
  have s0 : ((s.heap.push { cls := .type "list_iterator", data := .fields #[.ref l, .int 0 0] }).push { cls := .type "list", data := .seq ([] : List Value).toArray }).get? (s.heap.push { cls := .type "list_iterator", data := .fields #[.ref l, .int 0 0] }).objs.size = some { cls := .type "list", data := .seq ([] : List Value).toArray } := Heap.get?_push_size _ rfl
  have hSI : (s.heap.push { cls := .type "list_iterator", data := .fields #[.ref l, .int 0 0] }).objs.size = I + 1 := by rw [Heap.size_push, hI]
  generalize hS : (s.heap.push { cls := .type "list_iterator", data := .fields #[.ref l, .int 0 0] }).objs.size = S at *
  generalize ((s.heap.push { cls := .type "list_iterator", data := .fields #[.ref l, .int 0 0] }).push { cls := .type "list", data := .seq ([] : List Value).toArray }) = h₀ at *
  have hSI' : S ≠ I := by rw [hSI]; exact Nat.succ_ne_self I
  have notS : ∀ c o, s.heap.get? c = some o → c ≠ S := fun c o e => by rw [hSI, ← hI]; exact Nat.ne_of_lt (Nat.lt_succ_of_lt (Heap.lt_size e))
  have hlS : l ≠ S := notS _ _ hol
  rw [hname]
  -- the first turn
  refine wpAny_pure ⟨plainId_quiet F.plain_min_loop _, codeAny_builtin F.entry_min_loop ?_⟩
  rw [Around.under_plainId F.plain_min_loop _]
  show wpAny _ A.in1 (seqItems? (.ref S) >>= _) _ _ _
  refine wpAny_bind (wpAny_seqItems s0 rfl ?_)
  show wpAny _ A.in1 (tryCatch (pyNext (.ref I)) _ >>= _) _ _ _
  refine wpAny_bind (wpAny_tryCatch (W.item 0 _ _ _ (by show 0 < 2; decide) ⟨i0, hl.at fun o e => k0 _ o e⟩ fun v h₁ tk₁ hv st₁ k₁ => ?_))
  have ev : v = .ref a := (Option.some.inj hv).symm
  subst ev
  have s1 := k₁ S _ (by simpa using hSI') s0
  show wpAny _ A.in1 (updateSeq S (fun _ => #[Value.ref a, Value.ref a]) >>= _) _ _ _
  refine wpAny_bind (wpAny_updateSeq s1 rfl ?_)
  rw [hname]
  have s2 := Heap.get?_update_self (Obj.mapSeq (fun _ => #[Value.ref a, Value.ref a])) s1 rfl
  have k2 : ∀ c o, s.heap.get? c = some o → (h₁.update S (Obj.mapSeq fun _ => #[Value.ref a, Value.ref a])).get? c = some o := fun c o e => (Heap.get?_update_other _ _ (Ne.symm (notS c o e))).trans (k₁ c o (by simpa using notI c o e) (k0 c o e))
  have st2 : (h₁.update S (Obj.mapSeq fun _ => #[Value.ref a, Value.ref a])).IsListIter I l 1 ∧ (h₁.update S (Obj.mapSeq fun _ => #[Value.ref a, Value.ref a])).IsList l (List.toArray [.ref a, .ref b]) := ⟨st₁.1.at fun o e => (Heap.get?_update_other _ _ hSI').trans e, hl.at fun o e => k2 _ o e⟩
  generalize (h₁.update S (Obj.mapSeq fun _ => #[Value.ref a, Value.ref a])) = h₂ at *
  -- the second turn
  refine wpAny_pure ⟨plainId_quiet F.plain_min_loop _, codeAny_builtin F.entry_min_loop ?_⟩
  rw [Around.under_plainId F.plain_min_loop _]
  show wpAny _ A.in1 (seqItems? (.ref S) >>= _) _ _ _
  refine wpAny_bind (wpAny_seqItems s2 rfl ?_)
  show wpAny _ A.in1 (tryCatch (pyNext (.ref I)) _ >>= _) _ _ _
  refine wpAny_bind (wpAny_tryCatch (W.item 1 _ _ _ (by show 1 < 2; decide) st2 fun v h₃ tk₃ hv st₃ k₃ => ?_))
  have ev : v = .ref b := (Option.some.inj hv).symm
  subst ev
  have s3 := k₃ S _ (by simpa using hSI') s2
  have k3 : ∀ c o, s.heap.get? c = some o → h₃.get? c = some o := fun c o e => k₃ c o (by simpa using notI c o e) (k2 c o e)
  show wpAny _ A.in1 (tryCatch (holding [.ref b, .ref b] (richCompare .Lt (.ref b) (.ref a) >>= _)) _ >>= _) _ _ _
  refine wpAny_bind (wpAny_tryCatch (wpAny_holding (wpAny_bind (rc_lt ht hs (k3 _ _ hb) (k3 _ _ ha) (by show A.units + 1 < cLine; omega) ?_))))
  refine wpAny_bind (wpAny_holding (wpAny_truthy_bool ?_))
  refine wpAny_bind (wpAny_letGo (wpAny_pure ?_))
  cases hb' : lexLt ts ss with
  | true =>
    simp only [if_true]
    refine wpAny_bind (wpAny_updateSeq s3 rfl (wpAny_bind (wpAny_letGo ?_)))
    rw [hname]
    have s4 := Heap.get?_update_self (Obj.mapSeq (fun _ => #[Value.ref b, Value.ref b])) s3 rfl
    have k4 : ∀ c o, c ≠ S → h₃.get? c = some o → (h₃.update S (Obj.mapSeq fun _ => #[Value.ref b, Value.ref b])).get? c = some o := fun c o hc e => (Heap.get?_update_other _ _ (Ne.symm hc)).trans e
    generalize (h₃.update S (Obj.mapSeq fun _ => #[Value.ref b, Value.ref b])) = h₄ at *
    refine wpAny_pure ⟨plainId_quiet F.plain_min_loop _, codeAny_builtin F.entry_min_loop ?_⟩
    rw [Around.under_plainId F.plain_min_loop _]
    show wpAny _ A.in1 (seqItems? (.ref S) >>= _) _ _ _
    refine wpAny_bind (wpAny_seqItems s4 rfl ?_)
    show wpAny _ A.in1 (tryCatch (pyNext (.ref I)) _ >>= _) _ _ _
    refine wpAny_bind (wpAny_tryCatch (W.done _ _ _ ?_ fun h₅ tk₅ k₅ => ?_))
    · exact ⟨st₃.1.at fun o e => k4 _ _ hSI'.symm e, hl.at fun o e => k4 _ _ hlS (k3 _ _ e)⟩
    have s5 := k₅ S _ (by simpa using hSI') s4
    show wpAny _ A.in1 (updateSeq S (fun _ => #[]) >>= _) _ _ _
    refine wpAny_bind (wpAny_updateSeq s5 rfl (wpAny_bind (wpAny_letGo (wpAny_pure ?_))))
    have q := h (h₅.update S (Obj.mapSeq fun _ => #[])) tk₅ fun c o e => (Heap.get?_update_other _ _ (Ne.symm (notS c o e))).trans (k₅ c o (by simpa using notI c o e) (k4 c o (notS c o e) (k3 c o e)))
    rw [hb'] at q
    exact q
  | false =>
    simp only [Bool.false_eq_true, if_false]
    refine wpAny_bind (wpAny_letGo ?_)
    rw [hname]
    have k4 : ∀ c o, c ≠ S → h₃.get? c = some o → h₃.get? c = some o := fun c o hc e => e
    refine wpAny_pure ⟨plainId_quiet F.plain_min_loop _, codeAny_builtin F.entry_min_loop ?_⟩
    rw [Around.under_plainId F.plain_min_loop _]
    show wpAny _ A.in1 (seqItems? (.ref S) >>= _) _ _ _
    refine wpAny_bind (wpAny_seqItems s3 rfl ?_)
    show wpAny _ A.in1 (tryCatch (pyNext (.ref I)) _ >>= _) _ _ _
    refine wpAny_bind (wpAny_tryCatch (W.done _ _ _ ?_ fun h₅ tk₅ k₅ => ?_))
    · exact ⟨st₃.1.at fun o e => k4 _ _ hSI'.symm e, hl.at fun o e => k4 _ _ hlS (k3 _ _ e)⟩
    have s5 := k₅ S _ (by simpa using hSI') s3
    show wpAny _ A.in1 (updateSeq S (fun _ => #[]) >>= _) _ _ _
    refine wpAny_bind (wpAny_updateSeq s5 rfl (wpAny_bind (wpAny_letGo (wpAny_pure ?_))))
    have q := h (h₅.update S (Obj.mapSeq fun _ => #[])) tk₅ fun c o e => (Heap.get?_update_other _ _ (Ne.symm (notS c o e))).trans (k₅ c o (by simpa using notI c o e) (k4 c o (notS c o e) (k3 c o e)))
    rw [hb'] at q
    exact q
/-- max of a list of two rows -/
theorem two_max {l a b : Addr} {us vs : List Value} {ss ts : List Str} {n n2 : Nat} {Q : Value → Shared → Prop} (hh : A.handled = none) (hl : s.heap.IsList l (List.toArray [.ref a, .ref b])) (hs : StrsAre us ss) (ht : StrsAre vs ts)
    (ha : s.heap.get? a = some (listOf us.toArray n)) (hb : s.heap.get? b = some (listOf vs.toArray n2)) (hu : A.units + 8 < cLine)
    (h : ∀ h' tk, (∀ c o, s.heap.get? c = some o → h'.get? c = some o) → Q (.ref (if lexLt ss ts = true then b else a)) { s with heap := h', toks := tk }) :
    wpAny (model prog w) A (call (.builtin "max") [.ref l]) Q E s := by
  have hname : (toString "max" ++ toString ".loop" : String) = "max.loop" := by decide
  refine call_function_tree F.kind_max F.plain_max F.entry_max (F.args_max1 _) ?_
  show wpAny _ A.in1 (Builtin.Builtins.bindParams "max" ["key", "default"] 0 ⟨[], []⟩ >>= _) _ _ s
  refine wpAny_bind (wpAny_of_eq (show Builtin.Builtins.bindParams "max" ["key", "default"] 0 ⟨[], []⟩ = pure [none, none] from rfl) ?_)
  refine wpAny_bind (wpAny_pure ?_)
  refine wpAny_bind (wpAny_pyIter_list hl ?_)
  obtain ⟨ol, hol, _⟩ := id hl
  have hne : l ≠ s.heap.objs.size := Nat.ne_of_lt (Heap.lt_size hol)
  have W := Walks.list (prog := prog) (w := w) (A := A.in1) hh s.heap.objs.size l hne (List.toArray [.ref a, .ref b])
  generalize hI : s.heap.objs.size = I at *
  have notI : ∀ c o, s.heap.get? c = some o → c ≠ I := fun c o e => hI ▸ Nat.ne_of_lt (Heap.lt_size e)
  refine wpAny_bind (wpAny_newObj_type ?_)
  dsimp only
  have k0 : ∀ c o, s.heap.get? c = some o → ((s.heap.push { cls := .type "list_iterator", data := .fields #[.ref l, .int 0 0] }).push { cls := .type "list", data := .seq ([] : List Value).toArray }).get? c = some o := fun c o e => Heap.get?_push_of_some _ (Heap.get?_push_of_some _ e)
  have i0 : ((s.heap.push { cls := .type "list_iterator", data := .fields #[.ref l, .int 0 0] }).push { cls := .type "list", data := .seq ([] : List Value).toArray }).IsListIter I l 0 := ⟨_, Heap.get?_push_of_some _ (hI ▸ Heap.get?_push_size _ rfl), rfl, rfl⟩
  have s0 : ((s.heap.push { cls := .type "list_iterator", data := .fields #[.ref l, .int 0 0] }).push { cls := .type "list", data := .seq ([] : List Value).toArray }).get? (s.heap.push { cls := .type "list_iterator", data := .fields #[.ref l, .int 0 0] }).objs.size = some { cls := .type "list", data := .seq ([] : List Value).toArray } := Heap.get?_push_size _ rfl
  have hSI : (s.heap.push { cls := .type "list_iterator", data := .fields #[.ref l, .int 0 0] }).objs.size = I + 1 := by rw [Heap.size_push, hI]
  generalize hS : (s.heap.push { cls := .type "list_iterator", data := .fields #[.ref l, .int 0 0] }).objs.size = S at *
  generalize ((s.heap.push { cls := .type "list_iterator", data := .fields #[.ref l, .int 0 0] }).push { cls := .type "list", data := .seq ([] : List Value).toArray }) = h₀ at *
  have hSI' : S ≠ I := by rw [hSI]; exact Nat.succ_ne_self I
  have notS : ∀ c o, s.heap.get? c = some o → c ≠ S := fun c o e => by rw [hSI, ← hI]; exact Nat.ne_of_lt (Nat.lt_succ_of_lt (Heap.lt_size e))
  have hlS : l ≠ S := notS _ _ hol
  rw [hname]
  -- the first turn
  refine wpAny_pure ⟨plainId_quiet F.plain_max_loop _, codeAny_builtin F.entry_max_loop ?_⟩
  rw [Around.under_plainId F.plain_max_loop _]
  show wpAny _ A.in1 (seqItems? (.ref S) >>= _) _ _ _
  refine wpAny_bind (wpAny_seqItems s0 rfl ?_)
  show wpAny _ A.in1 (tryCatch (pyNext (.ref I)) _ >>= _) _ _ _
  refine wpAny_bind (wpAny_tryCatch (W.item 0 _ _ _ (by show 0 < 2; decide) ⟨i0, hl.at fun o e => k0 _ o e⟩ fun v h₁ tk₁ hv st₁ k₁ => ?_))
  have ev : v = .ref a := (Option.some.inj hv).symm
  subst ev
  have s1 := k₁ S _ (by simpa using hSI') s0
  show wpAny _ A.in1 (updateSeq S (fun _ => #[Value.ref a, Value.ref a]) >>= _) _ _ _
  refine wpAny_bind (wpAny_updateSeq s1 rfl ?_)
  rw [hname]
  have s2 := Heap.get?_update_self (Obj.mapSeq (fun _ => #[Value.ref a, Value.ref a])) s1 rfl
  have k2 : ∀ c o, s.heap.get? c = some o → (h₁.update S (Obj.mapSeq fun _ => #[Value.ref a, Value.ref a])).get? c = some o := fun c o e => (Heap.get?_update_other _ _ (Ne.symm (notS c o e))).trans (k₁ c o (by simpa using notI c o e) (k0 c o e))
  have st2 : (h₁.update S (Obj.mapSeq fun _ => #[Value.ref a, Value.ref a])).IsListIter I l 1 ∧ (h₁.update S (Obj.mapSeq fun _ => #[Value.ref a, Value.ref a])).IsList l (List.toArray [.ref a, .ref b]) := ⟨st₁.1.at fun o e => (Heap.get?_update_other _ _ hSI').trans e, hl.at fun o e => k2 _ o e⟩
  generalize (h₁.update S (Obj.mapSeq fun _ => #[Value.ref a, Value.ref a])) = h₂ at *
  -- the second turn
  refine wpAny_pure ⟨plainId_quiet F.plain_max_loop _, codeAny_builtin F.entry_max_loop ?_⟩
  rw [Around.under_plainId F.plain_max_loop _]
  show wpAny _ A.in1 (seqItems? (.ref S) >>= _) _ _ _
  refine wpAny_bind (wpAny_seqItems s2 rfl ?_)
  show wpAny _ A.in1 (tryCatch (pyNext (.ref I)) _ >>= _) _ _ _
  refine wpAny_bind (wpAny_tryCatch (W.item 1 _ _ _ (by show 1 < 2; decide) st2 fun v h₃ tk₃ hv st₃ k₃ => ?_))
  have ev : v = .ref b := (Option.some.inj hv).symm
  subst ev
  have s3 := k₃ S _ (by simpa using hSI') s2
  have k3 : ∀ c o, s.heap.get? c = some o → h₃.get? c = some o := fun c o e => k₃ c o (by simpa using notI c o e) (k2 c o e)
  show wpAny _ A.in1 (tryCatch (holding [.ref b, .ref b] (richCompare .Gt (.ref b) (.ref a) >>= _)) _ >>= _) _ _ _
  refine wpAny_bind (wpAny_tryCatch (wpAny_holding (wpAny_bind (rc_gt ht hs (k3 _ _ hb) (k3 _ _ ha) (by show A.units + 1 < cLine; omega) ?_))))
  refine wpAny_bind (wpAny_holding (wpAny_truthy_bool ?_))
  refine wpAny_bind (wpAny_letGo (wpAny_pure ?_))
  cases hb' : lexLt ss ts with
  | true =>
    simp only [if_true]
    refine wpAny_bind (wpAny_updateSeq s3 rfl (wpAny_bind (wpAny_letGo ?_)))
    rw [hname]
    have s4 := Heap.get?_update_self (Obj.mapSeq (fun _ => #[Value.ref b, Value.ref b])) s3 rfl
    have k4 : ∀ c o, c ≠ S → h₃.get? c = some o → (h₃.update S (Obj.mapSeq fun _ => #[Value.ref b, Value.ref b])).get? c = some o := fun c o hc e => (Heap.get?_update_other _ _ (Ne.symm hc)).trans e
    generalize (h₃.update S (Obj.mapSeq fun _ => #[Value.ref b, Value.ref b])) = h₄ at *
    refine wpAny_pure ⟨plainId_quiet F.plain_max_loop _, codeAny_builtin F.entry_max_loop ?_⟩
    rw [Around.under_plainId F.plain_max_loop _]
    show wpAny _ A.in1 (seqItems? (.ref S) >>= _) _ _ _
    refine wpAny_bind (wpAny_seqItems s4 rfl ?_)
    show wpAny _ A.in1 (tryCatch (pyNext (.ref I)) _ >>= _) _ _ _
    refine wpAny_bind (wpAny_tryCatch (W.done _ _ _ ?_ fun h₅ tk₅ k₅ => ?_))
    · exact ⟨st₃.1.at fun o e => k4 _ _ hSI'.symm e, hl.at fun o e => k4 _ _ hlS (k3 _ _ e)⟩
    have s5 := k₅ S _ (by simpa using hSI') s4
    show wpAny _ A.in1 (updateSeq S (fun _ => #[]) >>= _) _ _ _
    refine wpAny_bind (wpAny_updateSeq s5 rfl (wpAny_bind (wpAny_letGo (wpAny_pure ?_))))
    have q := h (h₅.update S (Obj.mapSeq fun _ => #[])) tk₅ fun c o e => (Heap.get?_update_other _ _ (Ne.symm (notS c o e))).trans (k₅ c o (by simpa using notI c o e) (k4 c o (notS c o e) (k3 c o e)))
    rw [hb'] at q
    exact q
  | false =>
    simp only [Bool.false_eq_true, if_false]
    refine wpAny_bind (wpAny_letGo ?_)
    rw [hname]
    have k4 : ∀ c o, c ≠ S → h₃.get? c = some o → h₃.get? c = some o := fun c o hc e => e
    refine wpAny_pure ⟨plainId_quiet F.plain_max_loop _, codeAny_builtin F.entry_max_loop ?_⟩
    rw [Around.under_plainId F.plain_max_loop _]
    show wpAny _ A.in1 (seqItems? (.ref S) >>= _) _ _ _
    refine wpAny_bind (wpAny_seqItems s3 rfl ?_)
    show wpAny _ A.in1 (tryCatch (pyNext (.ref I)) _ >>= _) _ _ _
    refine wpAny_bind (wpAny_tryCatch (W.done _ _ _ ?_ fun h₅ tk₅ k₅ => ?_))
    · exact ⟨st₃.1.at fun o e => k4 _ _ hSI'.symm e, hl.at fun o e => k4 _ _ hlS (k3 _ _ e)⟩
    have s5 := k₅ S _ (by simpa using hSI') s3
    show wpAny _ A.in1 (updateSeq S (fun _ => #[]) >>= _) _ _ _
    refine wpAny_bind (wpAny_updateSeq s5 rfl (wpAny_bind (wpAny_letGo (wpAny_pure ?_))))
    have q := h (h₅.update S (Obj.mapSeq fun _ => #[])) tk₅ fun c o e => (Heap.get?_update_other _ _ (Ne.symm (notS c o e))).trans (k₅ c o (by simpa using notI c o e) (k4 c o (notS c o e) (k3 c o e)))
    rw [hb'] at q
    exact q
end
end
section
set_option maxRecDepth 100000
set_option maxHeartbeats 8000000
open Sem (wp)
/-- the end of a turn of a loop over enumerate -/
def EPost (h₀ : Heap) (L : Addr) (J : (Str → Option Value) → List (Addr × Obj) → Prop) (own : List (Addr × Obj)) (wr : List Addr) (s₁ : Shared) (Q : Flow → Shared → Prop) (f : Flow) (s₂ : Shared) : Prop :=
  match f with
  | .ret v => Q (.ret v) s₂
  | .brk => Q .next s₂
  | _ => ∃ h' tk m' news' nx, s₂ = { s₁ with heap := h', toks := tk } ∧ Fr h₀ L h' m' ∧ News h₀ L h' news' ∧ (∀ p ∈ nx, p ∈ news') ∧ (∀ p ∈ own, p ∈ news') ∧ (∀ p ∈ nx, p.1 ∉ wr) ∧ J m' nx
section
variable {prog : Program} {w : World} {A : Around} {E : Value → Shared → Prop} {s : Shared} {env : Env} {h₀ : Heap} {body : List Stmt} {Q : Flow → Shared → Prop}
theorem enum_loop {xi xc : Str} {pi pc pos : Pos} {k : Nat} {l : Addr} {us : List Value} {m₀ : Str → Option Value} {news : List (Addr × Obj)} (J : Nat → (Str → Option Value) → List (Addr × Obj) → Prop)
    (hh : A.handled = none) (hxi : env.kindOf xi = some .local) (hxc : env.kindOf xc = some .local) (hp : (env.scope.kind == .class || (env.scope.kind == .module && env.locals != env.globals)) = false)
    (F : Fr h₀ env.locals s.heap m₀) (N : News h₀ env.locals s.heap news) (hl : s.heap.IsList l us.toArray) (hlL : l ≠ env.locals) (hj : J 0 m₀ news)
    (turn : ∀ i v t m₁ news₁ h tk own wr, us[i]? = some v → J i m₁ news₁ → (∀ p ∈ news₁, p.1 ∉ wr) → h.IsList l us.toArray → Fr h₀ env.locals h (fun y => if y = xc then some v else if y = xi then some (.int i t) else m₁ y) → News h₀ env.locals h (news₁ ++ own) →
      wpAny (model prog w) A (execs body env) (EPost h₀ env.locals (J (i + 1)) own wr { s with heap := h, toks := tk } Q) E { s with heap := h, toks := tk })
    (done : ∀ m₁ news₁ h tk, J us.length m₁ news₁ → Fr h₀ env.locals h m₁ → News h₀ env.locals h news₁ → Q .next { s with heap := h, toks := tk }) :
    wpAny (model prog w) A (call (.type "enumerate") [.ref l]) (fun xv s₁ => wpAny (model prog w) A (pyIter xv) (fun it s₂ => TurnsAt prog w A h₀ env (.Tuple [.Name xi pi, .Name xc pc] k pos) body Q E it s₂) E s₁) E s := by
  obtain ⟨ol, hol, _⟩ := id hl
  have hlt : l < s.heap.objs.size := Heap.lt_size hol
  have hLs : env.locals < s.heap.objs.size := F.ns.lt
  refine call_enumerate_list hl fun h' hE hI hsz hk => ?_
  refine wpAny_pyIter_enum hE ?_
  have fresh₀ : ∀ a, s.heap.objs.size ≤ a → h₀.get? a = none := fun a ha => by
    cases e : h₀.get? a with
    | none => rfl
    | some o' => exact absurd (Heap.lt_size (F.keep _ _ e)) (Nat.not_lt.mpr ha)
  have off : ∀ p ∈ news, p.1 ∉ [s.heap.objs.size + 1, s.heap.objs.size] := fun p hp hm => by
    have h1 := Heap.lt_size (N p hp).1
    simp only [List.mem_cons, List.not_mem_nil, or_false] at hm
    rcases hm with e | e
    · rw [e] at h1; exact absurd h1 (Nat.not_lt.mpr (Nat.le_succ _))
    · rw [e] at h1; exact absurd h1 (Nat.lt_irrefl _)
  have W := KTurns.ofWalksU (elts := [.Name xi pi, .Name xc pc]) (k := k) (pos := pos) (WalksT.enumerate (prog := prog) (w := w) (A := A) hh (s.heap.objs.size + 1) s.heap.objs.size l (Nat.succ_ne_self _) (Nat.ne_of_lt (Nat.lt_succ_of_lt hlt)) (Nat.ne_of_lt hlt) us.toArray).toU
  refine ⟨s.heap.objs.size + 1, _, _, _, _, _, _, m₀, news, J, rfl, W, ?_, ?_, off, ⟨⟨_, hE⟩, hI, hl.at fun o e => hk _ o e⟩, F.keeps hk, N.grown hk, hj, ?_, ?_⟩
  · intro hm
    simp only [List.mem_cons, List.not_mem_nil, or_false] at hm
    rcases hm with e | e | e
    · exact absurd hLs (e ▸ Nat.not_lt.mpr (Nat.le_succ _))
    · exact absurd hLs (e ▸ Nat.lt_irrefl _)
    · exact hlL e.symm
  · intro b hb
    simp only [List.mem_cons, List.not_mem_nil, or_false] at hb
    rcases hb with rfl | rfl
    · exact fresh₀ _ (Nat.le_succ _)
    · exact fresh₀ _ (Nat.le_refl _)
  · rintro i v m₁ news₁ h₁ tk₁ own hi ⟨T, vals, rfl, ⟨t, x, hx, rfl⟩, hT⟩ hJ hoff hown hget _ hSt F₁ N₁
    refine wpAny_assign_Tuple hh hT rfl rfl fun h₃ hx₃ => ?_
    have k₃ : ∀ b o, h₁.get? b = some o → h₃.get? b = some o := fun b o e => hx₃ b o (Nat.ne_of_lt (Heap.lt_size e)) e
    have F₃ := F₁.keeps k₃
    have N₃ := N₁.grown k₃
    show wpAny _ A (do holding [x] (assign (.Name xi pi) env (.int i t)); do holding [] (assign (.Name xc pc) env x); pure ()) _ _ _
    refine wpAny_bind (wpAny_holding (wpAny_assign_Name (wpAny_storeName_local hxi F₃.ns (fun h₄ hn₄ hs₄ => ?_) hp)))
    have F₄ := F₃.set hn₄ hs₄
    have N₄ := N₃.set hs₄
    refine wpAny_bind (wpAny_holding (wpAny_assign_Name (wpAny_storeName_local hxc F₄.ns (fun h₅ hn₅ hs₅ => wpAny_pure ?_) hp)))
    have F₅ := F₄.set hn₅ hs₅
    have N₅ := N₄.set hs₅
    have hl₅ : h₅.IsList l us.toArray := ((hSt.2.2.at fun o e => k₃ _ o e).extBut hs₄.extBut hlL).extBut hs₅.extBut hlL
    refine wpAny_mono (turn i x t m₁ news₁ h₅ _ own [s.heap.objs.size + 1, s.heap.objs.size] (by simpa using hx) hJ hoff hl₅ F₅ (fun p hp => N₅ p ((List.mem_append.mp hp).elim (fun q => List.mem_append.mpr (.inr q)) fun q => List.mem_append.mpr (.inl q)))) (fun f s₂ p => ?_) fun _ _ e => e
    have fin : (∃ h' tk m' news' nx, s₂ = { s with heap := h', toks := tk } ∧ Fr h₀ env.locals h' m' ∧ News h₀ env.locals h' news' ∧ (∀ p ∈ nx, p ∈ news') ∧ (∀ p ∈ own, p ∈ news') ∧ (∀ p ∈ nx, p.1 ∉ [s.heap.objs.size + 1, s.heap.objs.size]) ∧ J (i + 1) m' nx) → LoopStepU h₀ env.locals [s.heap.objs.size + 1, s.heap.objs.size] own (J (i + 1)) { s with heap := h₁, toks := tk₁ } .next s₂ := by
      rintro ⟨h', tk, m', news', nx, e, F', N', hn, ho, ha, hm⟩
      exact ⟨rfl, h', tk, m', nx, e, F', fun p hp => N' p ((List.mem_append.mp hp).elim (ho p) (hn p)), ha, hm⟩
    cases f with
    | ret v => exact .ret p
    | brk => exact .brk p
    | next => exact .next (fin p)
    | cont => exact .cont (fin p)
  · rintro h'' tk m' news' F' N' _ hJ
    rw [List.size_toArray] at hJ
    exact done m' news' h'' tk hJ F' N'
end
/-- what two rows begin with alike, ended in a turn -/
theorem cpre_stop {a b : List Str} {i : Nat} {x y : Str} (h : a.take i = b.take i) (hx : a[i]? = some x) (hy : b[i]? = some y) (hne : x ≠ y) : cpre a b = a.take i := by
  obtain ⟨h1, e1⟩ := List.getElem?_eq_some_iff.mp hx
  obtain ⟨h2, e2⟩ := List.getElem?_eq_some_iff.mp hy
  refine cpre_take a b i h (Nat.le_of_lt h1) (.inl fun q => hne ?_)
  rw [List.take_add_one, List.take_add_one, hx, hy, h] at q
  have := List.append_cancel_left q
  simpa using this
theorem cpre_full {a b : List Str} (h : a.take a.length = b.take a.length) : cpre a b = a := by
  have := cpre_take a b a.length h (Nat.le_refl _) (.inr (Nat.lt_irrefl _))
  rw [List.take_length] at this
  exact this
theorem take_more {a b : List Str} {i : Nat} {x : Str} (h : a.take i = b.take i) (hx : a[i]? = some x) (hy : b[i]? = some x) : a.take (i + 1) = b.take (i + 1) := by
  rw [List.take_add_one, List.take_add_one, hx, hy, h]
theorem lex_prefix : ∀ {a b : List Str} {i : Nat}, a.take i = b.take i → i < a.length → b.length ≤ i → lexLt b a = true
  | [], _, _, _, h, _ => by simp at h
  | x :: a, [], _, _, _, _ => rfl
  | x :: a, y :: b, 0, _, _, h => by simp at h
  | x :: a, y :: b, i + 1, h, h1, h2 => by
    simp only [List.take_succ_cons, List.cons.injEq] at h
    rw [lexLt, if_pos h.1.symm]
    exact lex_prefix h.2 (by simpa using h1) (by simpa using h2)
/-- the lesser row is no longer where both agree -/
theorem lex_room {a b : List Str} {i : Nat} (hlt : lexLt b a = false) (h : a.take i = b.take i) (hi : i < a.length) : i < b.length := by
  rcases Nat.lt_or_ge i b.length with q | q
  · exact q
  · rw [lex_prefix h hi q] at hlt; cases hlt
theorem str_ne_cps {x y : Str} (h : x ≠ y) : x.cps.toList ≠ y.cps.toList := fun q => h (by
  obtain ⟨c⟩ := x; obtain ⟨d⟩ := y
  have : c = d := by simpa using congrArg List.toArray q
  rw [this])
theorem lex_asymm : ∀ (a b : List Str), lexLt a b = true → lexLt b a = false
  | [], [], h => by simp [lexLt] at h
  | [], _ :: _, _ => rfl
  | _ :: _, [], h => by simp [lexLt] at h
  | x :: a, y :: b, h => by
    unfold lexLt at h ⊢
    by_cases e : x = y
    · rw [if_pos e] at h; rw [if_pos e.symm]; exact lex_asymm a b h
    · rw [if_neg e] at h; rw [if_neg fun q => e q.symm]
      have h' := of_decide_eq_true h
      exact decide_eq_false fun q => absurd (List.lt_trans h' q) (List.lt_irrefl _)
theorem lex_total : ∀ (a b : List Str), lexLt a b = false → lexLt b a = false → a = b
  | [], [], _, _ => rfl
  | [], _ :: _, h, _ => by simp [lexLt] at h
  | _ :: _, [], _, h => by simp [lexLt] at h
  | x :: a, y :: b, h, h' => by
    unfold lexLt at h h'
    by_cases e : x = y
    · rw [if_pos e] at h; rw [if_pos e.symm] at h'; rw [e, lex_total a b h h']
    · rw [if_neg e] at h; rw [if_neg fun q => e q.symm] at h'
      exact absurd (List.le_antisymm (List.not_lt.mp (of_decide_eq_false h')) (List.not_lt.mp (of_decide_eq_false h))) (str_ne_cps e)
end
section
set_option maxRecDepth 100000
set_option maxHeartbeats 8000000
theorem cpre_swap : ∀ a b : List Str, cpre a b = cpre b a
  | [], [] => rfl
  | [], _ :: _ => rfl
  | _ :: _, [] => rfl
  | x :: a, y :: b => by
    unfold cpre
    by_cases h : x = y
    · rw [if_pos h, if_pos h.symm, cpre_swap a b, h]
    · rw [if_neg h, if_neg (fun z => h z.symm)]
theorem lex_self (a : List Str) : lexLt a a = false := by
  cases h : lexLt a a with
  | false => rfl
  | true => rw [lex_asymm a a h] at h; cases h
theorem minmax_facts {a b a' b' : List Str} (h1 : a' = if lexLt b a = true then b else a) (h2 : b' = if lexLt a b = true then b else a) : lexLt b' a' = false ∧ cpre a' b' = cpre a b := by
  subst h1 h2
  cases p : lexLt b a with
  | true =>
    have q := lex_asymm b a p
    rw [q]
    simp only [if_true, Bool.false_eq_true, if_false]
    exact ⟨q, cpre_swap b a⟩
  | false =>
    cases q : lexLt a b with
    | true =>
      simp only [if_true, Bool.false_eq_true, if_false]
      exact ⟨p, trivial⟩
    | false =>
      have e := lex_total a b q p
      subst e
      simp only [Bool.false_eq_true, if_false]
      exact ⟨q, trivial⟩
section
variable {prog : Program} {w : World} {A : Around} {E : Value → Shared → Prop} {s : Shared} {h₀ : Heap} {L : Addr} {m : Str → Option Value} {news : List (Addr × Obj)}
theorem min_N {l a b : Addr} {us vs : List Value} {ss ts : List Str} {n : Nat} {Q : Value → Shared → Prop} (hh : A.handled = none) (F : Fr h₀ L s.heap m) (N : News h₀ L s.heap news) (hl : (l, listOf (List.toArray [.ref a, .ref b]) n) ∈ news) (ha : (a, LCg.lst us) ∈ news) (hb : (b, LCg.lst vs) ∈ news) (hs : StrsAre us ss) (ht : StrsAre vs ts)
    (hu : A.units + 8 < cLine)
    (h : ∀ P ys as h' tk, (P, LCg.lst ys) ∈ news → StrsAre ys as → as = (if lexLt ts ss = true then ts else ss) → Fr h₀ L h' m → News h₀ L h' news → Q (.ref P) { s with heap := h', toks := tk }) :
    wpAny (model prog w) A (call (.builtin "min") [.ref l]) Q E s := by
  refine two_min hh ⟨_, (N _ hl).1, rfl, _, rfl⟩ hs ht (N _ ha).1 (N _ hb).1 hu fun h' tk k => ?_
  cases q : lexLt ts ss with
  | true =>
    simp only [if_true]
    exact h b vs ts h' tk hb ht (by rw [q]; rfl) (F.keeps k) (N.grown k)
  | false =>
    simp only [Bool.false_eq_true, if_false]
    exact h a us ss h' tk ha hs (by rw [q]; rfl) (F.keeps k) (N.grown k)
theorem max_N {l a b : Addr} {us vs : List Value} {ss ts : List Str} {n : Nat} {Q : Value → Shared → Prop} (hh : A.handled = none) (F : Fr h₀ L s.heap m) (N : News h₀ L s.heap news) (hl : (l, listOf (List.toArray [.ref a, .ref b]) n) ∈ news) (ha : (a, LCg.lst us) ∈ news) (hb : (b, LCg.lst vs) ∈ news) (hs : StrsAre us ss) (ht : StrsAre vs ts)
    (hu : A.units + 8 < cLine)
    (h : ∀ P ys as h' tk, (P, LCg.lst ys) ∈ news → StrsAre ys as → as = (if lexLt ss ts = true then ts else ss) → Fr h₀ L h' m → News h₀ L h' news → Q (.ref P) { s with heap := h', toks := tk }) :
    wpAny (model prog w) A (call (.builtin "max") [.ref l]) Q E s := by
  refine two_max hh ⟨_, (N _ hl).1, rfl, _, rfl⟩ hs ht (N _ ha).1 (N _ hb).1 hu fun h' tk k => ?_
  cases q : lexLt ss ts with
  | true =>
    simp only [if_true]
    exact h b vs ts h' tk hb ht (by rw [q]; rfl) (F.keeps k) (N.grown k)
  | false =>
    simp only [Bool.false_eq_true, if_false]
    exact h a us ss h' tk ha hs (by rw [q]; rfl) (F.keeps k) (N.grown k)
end
/-- what commonpath makes of two texts that begin alike -/
def commonT (x y : Str) : Str := (if Txt.startswith x (Str.ofString "/") = true then Str.ofString "/" else Txt.slice (Str.ofString "/") none (some 0)) ++ Txt.join (Str.ofString "/") (cpre (solid (Txt.split x (Str.ofString "/"))) (solid (Txt.split y (Str.ofString "/"))))
theorem solid_wt {x : Str} (hx : x.length ≤ 60000) : wt (solid (Txt.split x (Str.ofString "/"))) ≤ 60001 := by
  have h1 := wt_filter (fun p => !(p == Str.ofString "" || p == Str.ofString ".")) (Txt.split x (Str.ofString "/"))
  have h2 := split_wt x
  unfold solid
  omega
theorem pick_mm {h₀ h : Heap} {L : Addr} {m : Str → Option Value} {news : List (Addr × Obj)} {x y : Str} {P1 P2 C : Addr} {oC : Obj} {ys1 ys2 : List Value} {as1 as2 : List Str} (hx : x.length ≤ 60000) (hy : y.length ≤ 60000) (_F : Fr h₀ L h m) (N : News h₀ L h news)
    (h1 : m (Str.ofString "s1") = some (.ref P1)) (h2 : m (Str.ofString "s2") = some (.ref P2)) (h3 : m (Str.ofString "common") = some (.ref P1)) (h4 : m (Str.ofString "isabs") = some (.bool (Txt.startswith x (Str.ofString "/"))))
    (hm1 : (P1, LCg.lst ys1) ∈ news) (hm2 : (P2, LCg.lst ys2) ∈ news) (hC : (C, oC) ∈ news) (hS1 : StrsAre ys1 as1) (hS2 : StrsAre ys2 as2)
    (e1 : as1 = if lexLt (solid (Txt.split y (Str.ofString "/"))) (solid (Txt.split x (Str.ofString "/"))) = true then solid (Txt.split y (Str.ofString "/")) else solid (Txt.split x (Str.ofString "/")))
    (e2 : as2 = if lexLt (solid (Txt.split x (Str.ofString "/"))) (solid (Txt.split y (Str.ofString "/"))) = true then solid (Txt.split y (Str.ofString "/")) else solid (Txt.split x (Str.ofString "/"))) :
    ∃ P1 P2 ys1 ys2 as1 as2, m (Str.ofString "s1") = some (.ref P1) ∧ m (Str.ofString "s2") = some (.ref P2) ∧ m (Str.ofString "common") = some (.ref P1) ∧ m (Str.ofString "isabs") = some (.bool (Txt.startswith x (Str.ofString "/"))) ∧ News h₀ L h [(P1, LCg.lst ys1), (P2, LCg.lst ys2), (C, oC)] ∧ StrsAre ys1 as1 ∧ StrsAre ys2 as2 ∧ lexLt as2 as1 = false ∧ cpre as1 as2 = cpre (solid (Txt.split x (Str.ofString "/"))) (solid (Txt.split y (Str.ofString "/"))) ∧ wt as1 ≤ 60001 ∧ wt as2 ≤ 60001 := by
  obtain ⟨a, b⟩ := minmax_facts e1 e2
  have wx := solid_wt hx
  have wy := solid_wt hy
  refine ⟨P1, P2, ys1, ys2, as1, as2, h1, h2, h3, h4, fun p hp => ?_, hS1, hS2, a, b, ?_, ?_⟩
  · simp only [List.mem_cons, List.not_mem_nil, or_false] at hp
    rcases hp with rfl | rfl | rfl
    · exact N _ hm1
    · exact N _ hm2
    · exact N _ hC
  · rw [e1]; split <;> assumption
  · rw [e2]; split <;> assumption
theorem name_news {h₀ h : Heap} {L : Addr} {l : List (Addr × Obj)} (N : News h₀ L h l) : ∃ l', l = l' ∧ News h₀ L h l' := ⟨l, rfl, N⟩
theorem nat_at {i : Nat} : ((i : Int)).toNat = i := Int.toNat_natCast i
theorem fr_at3 {h₀ h : Heap} {L : Addr} {m : Str → Option Value} {x z : Str} {v u : Value} (ps : List (Str × Value)) (F : Fr h₀ L h (fun y => if y = x then some v else if y = z then some u else m y)) (e : ∀ p ∈ ps, m p.1 = some p.2) : Fr h₀ L h (fun y => if y = x then some v else if y = z then some u else kstB m ps y) := by
  have : kstB m ps = m := by
    funext z
    exact kstB_eq e fun _ => rfl
  rw [this]; exact F
theorem at_getD {ss : List Str} {k : Nat} (h : k < ss.length) : ss[k]? = some (ss.getD ((k : Int)).toNat Str.empty) := by
  rw [Int.toNat_natCast, List.getD_eq_getElem?_getD, List.getElem?_eq_getElem h]; rfl
theorem end_brk {x y : Str} {as1 as2 : List Str} {i : Nat} {z : Str} (hcp : cpre as1 as2 = cpre (solid (Txt.split x (Str.ofString "/"))) (solid (Txt.split y (Str.ofString "/")))) (e6 : as1.take i = as2.take i) (hz : as1[i]? = some z) (hi2 : i < as2.length) (hq : (z != as2.getD ((i : Int)).toNat Str.empty) = true) :
    as1.take ((i : Int)).toNat = cpre (solid (Txt.split x (Str.ofString "/"))) (solid (Txt.split y (Str.ofString "/"))) := by
  rw [← hcp, Int.toNat_natCast, cpre_stop e6 hz (at_getD hi2) (bne_t hq)]
theorem end_done {x y : Str} {as1 as2 : List Str} {n : Nat} (hcp : cpre as1 as2 = cpre (solid (Txt.split x (Str.ofString "/"))) (solid (Txt.split y (Str.ofString "/")))) (hn : n = as1.length) (e6 : as1.take n = as2.take n) :
    as1 = cpre (solid (Txt.split x (Str.ofString "/"))) (solid (Txt.split y (Str.ofString "/"))) := by
  subst hn
  rw [← hcp, cpre_full e6]
theorem common_t {x y : Str} {l : List Str} (h : Txt.startswith x (Str.ofString "/") = true) (e : l = cpre (solid (Txt.split x (Str.ofString "/"))) (solid (Txt.split y (Str.ofString "/")))) : Str.ofString "/" ++ Txt.join (Str.ofString "/") l = commonT x y := by
  rw [commonT, if_pos h, e]
theorem common_f {x y : Str} {l : List Str} (h : Txt.startswith x (Str.ofString "/") = false) (e : l = cpre (solid (Txt.split x (Str.ofString "/"))) (solid (Txt.split y (Str.ofString "/")))) : Txt.slice (Str.ofString "/") none (some 0) ++ Txt.join (Str.ofString "/") l = commonT x y := by
  rw [commonT, if_neg (by rw [h]; exact Bool.false_ne_true), e]
end
section
set_option maxRecDepth 100000
set_option maxHeartbeats 8000000
open Sem (wp)
abbrev excObj (cls : String) (t : Addr) : Obj := { cls := .type cls, data := .fields #[.ref t, .none, .none, .none, .bool false, .none] }
abbrev excCtx (cls : String) (t e1 : Addr) : Obj := { cls := .type cls, data := .fields #[.ref t, .none, .ref e1, .none, .bool true, .none] }
theorem unchain_entry : entryFor table "proto.unchain" = some Builtin.«proto.unchain» := entryFor_of_tree (by kernel_rfl)
theorem unchain_plain : plainId "proto.unchain" = true := by decide +kernel
section
variable {prog : Program} {w : World} {A : Around} {E : Value → Shared → Prop} {s : Shared} {env : Env}
theorem raise_from {cls : String} (F : ExcRaiseFacts cls) {e1 : Addr} {oe1 : Obj} {vs1 : Array Value} {x c : Sem Value} {Q : Flow → Shared → Prop} (hh : A.handled = some (.ref e1))
    (h : wpAny (model prog w) A x (fun v s₁ => ∃ e t, v = .ref e ∧ s₁.heap.get? e = some (excObj cls t) ∧ e1 ≠ e ∧ s₁.heap.get? e1 = some oe1 ∧ oe1.data = .fields vs1 ∧ vs1[2]? = some .none ∧
      wpAny (model prog w) A c (fun v s₂ => v = .none ∧ s₂ = s₁ ∧ ∀ h', h'.get? e = some (excCtx cls t e1) → Heap.SameBut e s₁.heap h' → E (.ref e) { s₁ with heap := h' }) E s₁) E s) :
    wpAny (model prog w) A (raiseStmt env (some x) (some c)) Q E s := by
  unfold raiseStmt
  refine wpAny_bind (wpAny_mono h (fun v s₁ h₁ => ?_) fun _ _ x => x)
  obtain ⟨e, t, rfl, he, hne, he1, hd1, hv1, hc⟩ := h₁
  refine wpAny_bind (wpAny_holding (wpAny_mono hc (fun v s₂ h₂ => ?_) fun _ _ x => x))
  obtain ⟨rfl, rfl, hE⟩ := h₂
  refine wpAny_bind (wpAny_pure ?_)
  dsimp only
  obtain ⟨hp, g, d, tk, os⟩ := s₂
  have hsub := F.isExc
  have hmeta := F.plainMeta
  repeat (first | refine wpAny_loadPart he ?_ | wp_step)
  have g1 : (hp.update e (Obj.mapFields fun x => x.setIfInBounds 3 Value.none)).get? e = some _ := Heap.get?_update_self _ he rfl
  have g2 : ((hp.update e (Obj.mapFields fun x => x.setIfInBounds 3 Value.none)).update e (Obj.mapFields fun x => x.setIfInBounds 4 (Value.bool true))).get? e = some _ := Heap.get?_update_self _ g1 rfl
  have sb : Heap.SameBut e hp ((hp.update e (Obj.mapFields fun x => x.setIfInBounds 3 Value.none)).update e (Obj.mapFields fun x => x.setIfInBounds 4 (Value.bool true))) := (Heap.SameBut.update ..).trans (Heap.SameBut.update ..)
  generalize ((hp.update e (Obj.mapFields fun x => x.setIfInBounds 3 Value.none)).update e (Obj.mapFields fun x => x.setIfInBounds 4 (Value.bool true))) = h₂ at *
  have q1 : h₂.get? e1 = some oe1 := (sb.2 e1 hne).trans he1
  unfold raiseNew
  refine wpAny_bind (wpAny_handled ?_)
  rw [hh]
  dsimp only
  rw [if_pos (by simp [hne])]
  refine wpAny_bind (wpAny_holding (wpAny_runValue (codeAny_builtin unchain_entry ?_)))
  rw [Around.under_plainId unchain_plain _]
  show wpAny _ _ (field (.ref e1) 2 >>= _) _ _ _
  refine wpAny_bind (wpAny_field q1 hd1 hv1 ?_)
  rw [if_pos (by decide)]
  refine wpAny_pure ?_
  show wpAny _ _ (updateField e 2 (.ref e1) >>= _) _ _ _
  unfold updateField
  have g3 : h₂.get? e = some { cls := .type cls, data := .fields #[.ref t, .none, .none, .none, .bool true, .none] } := g2
  refine wpAny_bind (wpAny_bind (wpAny_load g3 ?_))
  dsimp only
  rw [if_pos (by show 2 < 6; decide)]
  refine wpAny_update g3 (wpAny_throw ?_)
  exact hE _ (Heap.get?_update_self _ g3 rfl) (sb.trans (Heap.SameBut.update ..))
end
section
variable {M : Model} {A : Around} {E : Value → Shared → Prop} {s : Shared}
/-- an exception of the frame's own is noted, its own fields told -/
theorem noted_first {base : Heap} {env : Env} {outer : List Env} {L e : Addr} {oe : Obj} {vs : Array Value} {a0 : Value} {Q : Unit → Shared → Prop}
    (hfr : A.frames = some (env :: outer)) (hl : s.heap.FunFrames base (env :: outer)) (hf : env.frame = some L)
    (he : s.heap.get? e = some oe) (hkb : base.StaysIn s.heap) (hen : base.get? e = none) (hd : oe.data = .fields vs) (h1 : vs[1]? = some .none) (h0 : vs[0]? = some a0)
    (h : ∀ h' T oe', Heap.LeftW base (env :: outer) e oe.cls a0 s.heap h' → h'.get? e = some oe' → oe'.data = .fields (vs.setIfInBounds 1 (.ref T)) → Q () { s with heap := h' }) :
    wpAny M A (noteFrame (.ref e) env) (fun _ s' => wpAny M A (setFlight (.ref e) none) Q E s') E s := by
  have hsz : 1 < vs.size := (Array.getElem?_eq_some_iff.mp h1).1
  unfold noteFrame
  simp only [hf]
  refine wpAny_bind (wpAny_field he hd h1 ?_)
  rw [if_neg (by decide)]
  have hene : e ∉ (env :: outer).filterMap (·.frame) := fun hm => by
    obtain ⟨_, o, ho, hnf⟩ := hl.mem hm
    rw [he] at ho; injection ho with ho; subst ho; exact hnf vs hd
  refine wpAny_bind (wpAny_frameOf_fun hfr hl hf fun h₁ hs₁ => ?_)
  refine wpAny_bind (wpAny_entryPlaceOf fun pl hpl => ?_)
  unfold EntryCells.newEntry newFields
  refine wpAny_bind (wpAny_newObj_type ?_ (hpl.sizeOk5 _ _ _ _ _))
  have he₁ : h₁.get? e = some oe := (hs₁.2.1 e hene).trans he
  have kb₁ : base.StaysIn h₁ := fun b o hbo => (hs₁.2.1 b fun hm => by rw [(hl.mem hm).1] at hbo; cases hbo).trans (hkb b o hbo)
  have he₂ := Heap.get?_push_of_some (h := h₁) { cls := .type "traceback", dict := none, data := .fields ([.none, .ref L, .none, rawInt L, .none] ++ (if pl.isEmpty then List.replicate 6 Value.none else pl)).toArray } he₁
  refine wpAny_setField he₂ hd hsz ?_
  have hTe : h₁.objs.size ≠ e := Nat.ne_of_gt (Heap.lt_size he₁)
  have hd₃ := Obj.data_mapFields hd (·.setIfInBounds 1 (Value.ref h₁.objs.size))
  have he₃ := Heap.get?_update_self (Obj.mapFields (·.setIfInBounds 1 (Value.ref h₁.objs.size))) he₂ (Obj.isFreed_of_fields hd₃)
  have hT₃ := (Heap.get?_update_other (h₁.push { cls := .type "traceback", dict := none, data := .fields ([.none, .ref L, .none, rawInt L, .none] ++ (if pl.isEmpty then List.replicate 6 Value.none else pl)).toArray })
    (Obj.mapFields (·.setIfInBounds 1 (Value.ref h₁.objs.size))) (Ne.symm hTe)).trans (Heap.get?_push_size h₁ rfl)
  unfold setFlight
  refine wpAny_bind (wpAny_field he₃ hd₃ (x := .ref h₁.objs.size) (by simp [hsz]) ?_)
  rw [if_pos (show (Value.ref h₁.objs.size != Value.none) = true from by simp)]
  refine wpAny_setField hT₃ rfl (by simp only [List.size_toArray, List.length_append, List.length_cons, List.length_nil] <;> omega) (h _ h₁.objs.size _ ?_ ((Heap.get?_update_other _ _ hTe).trans he₃) hd₃)
  have keep : ∀ b o, b ≠ e → h₁.get? b = some o →
      (((h₁.push { cls := .type "traceback", dict := none, data := .fields ([.none, .ref L, .none, rawInt L, .none] ++ (if pl.isEmpty then List.replicate 6 Value.none else pl)).toArray }).update e (Obj.mapFields (·.setIfInBounds 1 (Value.ref h₁.objs.size)))).update h₁.objs.size
        (Obj.mapFields (·.setIfInBounds 3 ((none : Option Addr).elim Value.none fun f => rawInt f)))).get? b = some o := fun b o hbe hb => by
    have hbT : h₁.objs.size ≠ b := Nat.ne_of_gt (Heap.lt_size hb)
    rw [Heap.get?_update_other _ _ hbT, Heap.get?_update_other _ _ (Ne.symm hbe)]
    exact Heap.get?_push_of_some _ hb
  have noRecord : ∀ b o, s.heap.get? b = some o → (∀ vs, o.data ≠ .fields vs) → b ≠ e := fun b o hb hnf q => by
    rw [q, he] at hb; injection hb with hb; subst hb; exact hnf vs hd
  refine ⟨fun b o hbo => keep b o (fun q => by rw [q, hen] at hbo; cases hbo) (kb₁ b o hbo), hl.of_keeps fun b o hb hnf => ?_, ?_, fun b o hb hnf => ?_⟩
  · obtain ⟨sl, hs⟩ := hs₁.2.2 b o hb
    exact ⟨_, keep b _ (noRecord b o hb hnf) hs, rfl⟩
  · refine ⟨_, _, h₁.objs.size, _, _, ?_, ⟨Obj.cls_mapFields _ _, by rw [Array.getElem?_setIfInBounds_ne (by decide)]; exact h0⟩, hd₃, by simp [hsz], kb₁.fresh, hTe, Heap.get?_update_self _ hT₃ (Obj.isFreed_of_fields (Obj.data_mapFields rfl _)), Obj.data_mapFields rfl _, by first | (simp; done) | (rcases hpl with rfl | ⟨_, _, _, _, _, _, _, rfl⟩ <;> simp)⟩
    rw [Heap.get?_update_other _ _ hTe]; exact he₃
  · obtain ⟨sl, hs⟩ := hs₁.2.2 b o hb
    exact ⟨sl, keep b _ (noRecord b o hb hnf) hs⟩
theorem flight_keep {base : Heap} {l : List Env} {e : Addr} {cls a0 : Value} {oe : Obj} {Q : Unit → Shared → Prop} (hh : Heap.FlyingW base l e cls a0 s.heap) (he : s.heap.get? e = some oe)
    (hQ : ∀ h', Heap.FlyingW base l e cls a0 h' → s.heap.UpToSlots h' → h'.get? e = some oe → Q () { s with heap := h' }) : wpAny M A (setFlight (.ref e) none) Q E s := by
  obtain ⟨f1, f2, f3, oe0, vs, T, oT, ts, he0, hcls, hd, h1, hnT, hTe, hT, hdT, h3⟩ := hh
  rw [he] at he0; cases he0
  have hsz3 : 3 < ts.size := (Array.getElem?_eq_some_iff.mp h3).1
  have other : ∀ b, b ≠ T → (s.heap.update T (Obj.mapFields (·.setIfInBounds 3 ((none : Option Addr).elim Value.none fun f => rawInt f)))).get? b = s.heap.get? b :=
    fun b hb => Heap.get?_update_other _ _ (Ne.symm hb)
  have noRecord : ∀ b o, s.heap.get? b = some o → (∀ vs, o.data ≠ .fields vs) → b ≠ T := fun b o hb hnf q => by
    rw [q, hT] at hb; injection hb with hb; subst hb; exact hnf ts hdT
  unfold setFlight
  refine wpAny_bind (wpAny_field he hd h1 ?_)
  rw [if_pos (show (Value.ref T != Value.none) = true from by simp)]
  refine wpAny_setField hT hdT hsz3 (hQ _ ⟨fun b o hbo => (other b fun q => by rw [q, hnT] at hbo; cases hbo).trans (f1 b o hbo), f2,
    f3.of_keeps fun b o hb hnf => ⟨o, (other b (noRecord b o hb hnf)).trans hb, rfl⟩, ?_⟩ (fun b o hb hnf => ⟨o.slots, (other b (noRecord b o hb hnf)).trans hb⟩) ((other e (Ne.symm hTe)).trans he))
  exact ⟨oe, vs, T, _, _, (other e (Ne.symm hTe)).trans he, hcls, hd, h1, hnT, hTe, Heap.get?_update_self _ hT (Obj.isFreed_of_fields (Obj.data_mapFields hdT _)), Obj.data_mapFields hdT _, by simp [hsz3]⟩
/-- the second exception, made in a clause, is noted and comes back -/
theorem noted_back {base : Heap} {env : Env} {outer : List Env} {L e : Addr} {oe : Obj} {vs : Array Value} {a0 : Value} {A' : Around} {E' : Value → Shared → Prop}
    (hfr : A.frames = some (env :: outer)) (hl : s.heap.FunFrames base (env :: outer)) (hf : env.frame = some L)
    (he : s.heap.get? e = some oe) (hkb : base.StaysIn s.heap) (hen : base.get? e = none) (hd : oe.data = .fields vs) (h1 : vs[1]? = some .none) (h0 : vs[0]? = some a0)
    (h : ∀ h', Heap.HeldW base (env :: outer) e oe.cls a0 L h' → s.heap.UpToSlots h' → E' (.ref e) { s with heap := h' }) :
    notedBy M A env (cameBackBy M A' env E') (.ref e) s := by
  have hsz : 1 < vs.size := (Array.getElem?_eq_some_iff.mp h1).1
  show wpAny M A (noteFrame (.ref e) env) _ _ s
  unfold noteFrame
  simp only [hf]
  refine wpAny_bind (wpAny_field he hd h1 ?_)
  rw [if_neg (by decide)]
  refine wpAny_entryW hfr hl hf he hkb hen hd hsz h0 fun h' hN => ?_
  obtain ⟨k1, k2, ⟨oe0, vs0, T, oT, ts, he0, hcls, hd0, h10, hnT, hTe, hT, hdT, h3⟩, k4⟩ := hN
  show wpAny M A' (do
    if (← field (.ref e) 1) == .none then unsupported "frame.own-activation:exception-without-traceback"
    setFlight (.ref e) env.frame) _ _ _
  have hsz3 : 3 < ts.size := (Array.getElem?_eq_some_iff.mp h3).1
  have other : ∀ b, b ≠ T → (h'.update T (Obj.mapFields (·.setIfInBounds 3 (rawInt L)))).get? b = h'.get? b :=
    fun b hb => Heap.get?_update_other _ _ (Ne.symm hb)
  have noRecord : ∀ b o, h'.get? b = some o → (∀ vs, o.data ≠ .fields vs) → b ≠ T := fun b o hb hnf q => by
    rw [q, hT] at hb; injection hb with hb; subst hb; exact hnf ts hdT
  refine wpAny_bind (wpAny_field he0 hd0 h10 ?_)
  rw [if_neg (show ¬ ((Value.ref T == Value.none) = true) from by simp)]
  unfold setFlight
  simp only [hf]
  refine wpAny_bind (wpAny_field he0 hd0 h10 ?_)
  rw [if_pos (show (Value.ref T != Value.none) = true from by simp)]
  refine wpAny_setField hT hdT hsz3 (h _ ⟨fun b o hbo => (other b fun q => by rw [q, hnT] at hbo; cases hbo).trans (k1 b o hbo), hen,
    k2.of_keeps fun b o hb hnf => ⟨o, (other b (noRecord b o hb hnf)).trans hb, rfl⟩, ?_⟩ (fun b o hb hnf => ?_))
  · exact ⟨oe0, vs0, T, _, _, (other e (Ne.symm hTe)).trans he0, hcls, hd0, h10, hnT, hTe, Heap.get?_update_self _ hT (Obj.isFreed_of_fields (Obj.data_mapFields hdT _)), Obj.data_mapFields hdT _, by simp [hsz3]⟩
  · obtain ⟨sl, hs⟩ := k4 b o hb hnf
    exact ⟨sl, (other b (noRecord b _ hs hnf)).trans hs⟩
/-- an exception of no clause passes on -/
theorem pass_on {α : Type} {what : String} {base : Heap} {env : Env} {l : List Env} {L e : Addr} {cls a0 : Value} {Q : α → Shared → Prop} (hf : env.frame = some L) (hh : Heap.FlyingW base l e cls a0 s.heap)
    (h : ∀ h', Heap.HeldW base l e cls a0 L h' → s.heap.UpToSlots h' → E (.ref e) { s with heap := h' }) : wpAny M A (PySem.passOn what (.ref e) env : Sem α) Q E s := by
  obtain ⟨f1, f2, f3, oe0, vs, T, oT, ts, he0, hcls, hd, h1, hnT, hTe, hT, hdT, h3⟩ := hh
  have hsz3 : 3 < ts.size := (Array.getElem?_eq_some_iff.mp h3).1
  have other : ∀ b, b ≠ T → (s.heap.update T (Obj.mapFields (·.setIfInBounds 3 (rawInt L)))).get? b = s.heap.get? b :=
    fun b hb => Heap.get?_update_other _ _ (Ne.symm hb)
  have noRecord : ∀ b o, s.heap.get? b = some o → (∀ vs, o.data ≠ .fields vs) → b ≠ T := fun b o hb hnf q => by
    rw [q, hT] at hb; injection hb with hb; subst hb; exact hnf ts hdT
  unfold PySem.passOn
  refine wpAny_bind (wpAny_field he0 hd h1 ?_)
  rw [if_neg (show ¬ ((Value.ref T == Value.none) = true) from by simp)]
  unfold setFlight
  simp only [hf]
  refine wpAny_bind (wpAny_bind (wpAny_field he0 hd h1 ?_))
  rw [if_pos (show (Value.ref T != Value.none) = true from by simp)]
  refine wpAny_setField hT hdT hsz3 (wpAny_throw (h _ ⟨fun b o hbo => (other b fun q => by rw [q, hnT] at hbo; cases hbo).trans (f1 b o hbo), f2,
    f3.of_keeps fun b o hb hnf => ⟨o, (other b (noRecord b o hb hnf)).trans hb, rfl⟩, ?_⟩ (fun b o hb hnf => ⟨o.slots, (other b (noRecord b o hb hnf)).trans hb⟩)))
  exact ⟨oe0, vs, T, _, _, (other e (Ne.symm hTe)).trans he0, hcls, hd, h1, hnT, hTe, Heap.get?_update_self _ hT (Obj.isFreed_of_fields (Obj.data_mapFields hdT _)), Obj.data_mapFields hdT _, by simp [hsz3]⟩
end
end
section
set_option maxRecDepth 100000
set_option maxHeartbeats 8000000
open Sem (wp)
theorem flying_keeps {base h h' : Heap} {l : List Env} {e : Addr} {cls a0 : Value} (x : Heap.FlyingW base l e cls a0 h) (k : ∀ b o, h.get? b = some o → h'.get? b = some o) : Heap.FlyingW base l e cls a0 h' := by
  obtain ⟨f1, f2, f3, oe0, vs, T, oT, ts, he0, hcls, hd, h1, hnT, hTe, hT, hdT, h3⟩ := x
  exact ⟨fun b o e => k b o (f1 b o e), f2, f3.of_keeps fun b o e _ => ⟨o, k b o e, rfl⟩, oe0, vs, T, oT, ts, k _ _ he0, hcls, hd, h1, hnT, hTe, k _ _ hT, hdT, h3⟩
theorem ve_base : isSubtype (.type "ValueError") (.type "BaseException") = pure true := by rw [isSubtype_type]; kernel_rfl
theorem te_base : isSubtype (.type "TypeError") (.type "BaseException") = pure true := by rw [isSubtype_type]; kernel_rfl
theorem ae_base : isSubtype (.type "AttributeError") (.type "BaseException") = pure true := by rw [isSubtype_type]; kernel_rfl
theorem ve_self : isSubtype (.type "ValueError") (.type "ValueError") = pure true := by rw [isSubtype_type]; kernel_rfl
theorem ve_te : isSubtype (.type "ValueError") (.type "TypeError") = pure false := by rw [isSubtype_type]; kernel_rfl
theorem ve_ae : isSubtype (.type "ValueError") (.type "AttributeError") = pure false := by rw [isSubtype_type]; kernel_rfl
theorem ve_meta : isSubtype (.type ((Manifest.find? "ValueError").elim "type" fun x => x.metatype)) (.type "tuple") = pure false := by rw [show ((Manifest.find? "ValueError").elim "type" fun x => x.metatype) = "type" by decide +kernel, isSubtype_type]; kernel_rfl
theorem te_meta : isSubtype (.type ((Manifest.find? "TypeError").elim "type" fun x => x.metatype)) (.type "tuple") = pure false := by rw [show ((Manifest.find? "TypeError").elim "type" fun x => x.metatype) = "type" by decide +kernel, isSubtype_type]; kernel_rfl
theorem ae_meta : isSubtype (.type ((Manifest.find? "AttributeError").elim "type" fun x => x.metatype)) (.type "tuple") = pure false := by rw [show ((Manifest.find? "AttributeError").elim "type" fun x => x.metatype) = "type" by decide +kernel, isSubtype_type]; kernel_rfl
section
variable {prog : Program} {w : World} {A : Around} {s : Shared} {B₀ : Heap} {l0 : List Env} {L a : Addr} {cn : Str} {cs : Scope} {ccd : Value} {cl : List (Str × Addr)} {m mg mb : Str → Option Value} {K : Frag} {p : Program} {loose : List Str}
theorem clause_raise {e1 : Addr} {oe1 : Obj} {vs1 : Array Value} {a0 : Value} {np np2 p3 p4 cpos rpos hpos : Pos} {kk kk2 : Nat} {msg : Str} {rest : List ExceptHandler} {Q : Flow → Shared → Prop} {Eo : Value → Shared → Prop}
    (hfr : A.frames = some (envX cn cs L a ccd cl :: l0)) (hh : Heap.FlyingW B₀ (envX cn cs L a ccd cl :: l0) e1 (.type "ValueError") a0 s.heap) (he : s.heap.get? e1 = some oe1) (hd : oe1.data = .fields vs1) (hv2 : vs1[2]? = some .none)
    (F : Fr B₀ L s.heap m) (X : K.In B₀) (T : TopRead p loose mg mb B₀) (ex : nsIn K mainGlobals (Str.ofString "ValueError") = some none) (hk : cs.kind = .function) (hx : (envX cn cs L a ccd cl).kindOf (Str.ofString "ValueError") = some .globalImplicit)
    (k : ∀ h' e2 t v tk, Heap.HeldW B₀ (envX cn cs L a ccd cl :: l0) e2 (.type "ValueError") (.ref t) L h' → h'.TupAt t [v] → B₀.get? t = none → s.heap.UpToSlots h' → Eo (.ref e2) { s with heap := h', toks := tk }) :
    wpAny (model prog w) A (handleBy (.ref e1) (envX cn cs L a ccd cl) (.ExceptHandler (some (.Name (Str.ofString "ValueError") np)) none [.Raise (some (.Call (.Name (Str.ofString "ValueError") np2) [.Constant (.str msg) kk p3] [] cpos)) (some (.Constant .none kk2 p4)) rpos] hpos :: rest)) Q Eo s := by
  have hbv : bootBuiltins (Str.ofString "ValueError") = some (.type "ValueError") := by kernel_rfl
  have hnn : Str.ofString "ValueError" ≠ "__name__" := by decide
  have hcls : oe1.cls = .type "ValueError" := by
    obtain ⟨ob, hob, hc⟩ := hh.there
    rw [he] at hob; cases hob; exact hc
  refine wpAny_handleBy_builtin (X := "ValueError") (T := "ValueError") (b := true) ve_base ve_meta ve_self (nameX_B F X T ex hbv hnn ⟨rfl, ⟨oe1, he, hcls⟩, ?_⟩ hk hx)
  rw [if_pos rfl]
  refine flight_keep hh he fun h₁ hh₁ sm₁ he₁ => ?_
  have F₁ : Fr B₀ L h₁ m := F.of_stays hh₁.1 sm₁
  refine wpAny_execs_cons ?_
  rw [arm_exec_Raise]
  refine wpAny_bind (wpAny_standAt ?_)
  refine raise_from PySem.F.excRaise_ValueError (e1 := e1) (oe1 := oe1) (vs1 := vs1) rfl ?_
  refine wpAny_bind (wpAny_Call_ofName (nameX_B (s := { s with heap := h₁ }) F₁ X T ex hbv hnn ?_ hk hx))
  refine callWith_excType rfl (Calls.evalArgs_plain (PyProof.Rows.spliced_more (Calls.Constant_str (PyProof.Rows.spliced_none ?_))))
  refine wpAny_call_exc PySem.F.excCall_ValueError (fun h₂ e2 hm => ?_) (by rw [sizeLine_eq]; show 1 ≤ _; decide)
  refine wpAny_bind (wpAny_standAt (wpAny_pure ?_))
  obtain ⟨t, hg2, ht1, ht2⟩ := hm.there
  have hne : e1 ≠ e2 := fun q => by have := hm.new; rw [← q, he₁] at this; cases this
  refine ⟨e2, t, rfl, hg2, hne, hm.keeps _ _ he₁, hd, hv2, ?_⟩
  refine wpAny_bind (wpAny_Constant_none (wpAny_bind (wpAny_standAt (wpAny_pure ⟨rfl, rfl, fun h₃ hg3 sb => ?_⟩))))
  have k3 : ∀ b o, h₁.get? b = some o → h₃.get? b = some o := fun b o e => (sb.2 b (fun q => by have := hm.new; rw [← q, e] at this; cases this)).trans (hm.keeps _ _ e)
  have en : ∀ c, h₁.get? c = none → B₀.get? c = none := fun c hc => by
    cases q : B₀.get? c with
    | none => rfl
    | some o => rw [hh₁.1 _ _ q] at hc; cases hc
  have hte : t ≠ e2 := fun q => by rw [q, hg2] at ht2; exact absurd (congrArg Obj.cls (Option.some.inj ht2)) (by simp)
  have st3 : B₀.StaysIn h₃ := fun b o e => k3 b o (hh₁.1 b o e)
  have fr3 := hh₁.2.2.1.of_keeps (h' := h₃) fun b o e _ => ⟨o, k3 b o e, rfl⟩
  refine noted_back (A := A.mark (some (.ref e1))) (s := { s with heap := h₃, toks := _ }) hfr fr3 rfl hg3 st3 (en _ hm.new) rfl rfl rfl fun h₄ held sm₄ => ?_
  have tup3 : h₃.TupAt t [Value.str msg s.toks] := ⟨_, _, (sb.2 t hte).trans ht2, rfl, rfl⟩
  exact k h₄ e2 t _ _ held (tup3.of_slots sm₄) (en _ ht1) ((sm₁.trans (Heap.UpToSlots.of_keeps k3)).trans sm₄)
theorem clause_miss {e : Addr} {a0 : Value} {p1 p2 tpos pos : Pos} {kk : Nat} {b₀ : Stmt} {suite : List Stmt} {Q : Flow → Shared → Prop} {Ef : Value → Shared → Prop}
    (hh : Heap.FlyingW B₀ (envX cn cs L a ccd cl :: l0) e (.type "ValueError") a0 s.heap)
    (F : Fr B₀ L s.heap m) (X : K.In B₀) (T : TopRead p loose mg mb B₀) (ex1 : nsIn K mainGlobals (Str.ofString "TypeError") = some none) (ex2 : nsIn K mainGlobals (Str.ofString "AttributeError") = some none) (hk : cs.kind = .function)
    (hx1 : (envX cn cs L a ccd cl).kindOf (Str.ofString "TypeError") = some .globalImplicit) (hx2 : (envX cn cs L a ccd cl).kindOf (Str.ofString "AttributeError") = some .globalImplicit)
    (k : ∀ h', Heap.HeldW B₀ (envX cn cs L a ccd cl :: l0) e (.type "ValueError") a0 L h' → s.heap.UpToSlots h' → Ef (.ref e) { s with heap := h' }) :
    wpAny (model prog w) A (handleBy (.ref e) (envX cn cs L a ccd cl) [.ExceptHandler (some (.Tuple [.Name (Str.ofString "TypeError") p1, .Name (Str.ofString "AttributeError") p2] kk tpos)) none (b₀ :: suite) pos]) Q Ef s := by
  have hb1 : bootBuiltins (Str.ofString "TypeError") = some (.type "TypeError") := by kernel_rfl
  have hb2 : bootBuiltins (Str.ofString "AttributeError") = some (.type "AttributeError") := by kernel_rfl
  have hn1 : Str.ofString "TypeError" ≠ "__name__" := by decide
  have hn2 : Str.ofString "AttributeError" ≠ "__name__" := by decide
  refine wpAny_handleBy_tup2 (X := "ValueError") (T1 := "TypeError") (T2 := "AttributeError") te_base te_meta ae_base ae_meta ve_te ve_ae ?_
  refine Tuple_ (spliced_more (nameX_B F X T ex1 hb1 hn1 (spliced_more (nameX_B F X T ex2 hb2 hn2 (spliced_none ?_) hk hx2)) hk hx1))
  have kp : ∀ b o, s.heap.get? b = some o → (s.heap.push { cls := .type "tuple", dict := none, data := .seq [Value.type "TypeError", .type "AttributeError"].toArray }).get? b = some o := fun b o e => Heap.get?_push_of_some _ e
  obtain ⟨ob, hob, hc⟩ := hh.there
  refine wpAny_newObj_type ⟨_, rfl, IsTup.new _ _, ⟨ob, Heap.get?_push_of_some _ hob, hc⟩, ?_⟩
  rw [if_neg (by decide)]
  refine wpAny_handleBy_nil (pass_on rfl (flying_keeps hh kp) fun h' held sm => k h' held ((Heap.UpToSlots.of_keeps kp).trans sm))
/-- the whole road of the refusal in the def's own frame -/
theorem mixed_chain {e1 : Addr} {h₁ : Heap} {np np2 p3 p4 cpos rpos hpos p1 p2 tpos pos : Pos} {kk kk2 kk3 : Nat} {msg : Str} {b₀ : Stmt} {suite : List Stmt} {Qi Qo : Flow → Shared → Prop} {Ef : Value → Shared → Prop}
    (hfr : A.frames = some (envX cn cs L a ccd cl :: l0)) (hfun : h₁.FunFrames B₀ (envX cn cs L a ccd cl :: l0)) (hst : B₀.StaysIn h₁) (hx : Heap.NewExc h₁ s.heap e1 "ValueError")
    (F : Fr B₀ L h₁ m) (X : K.In B₀) (T : TopRead p loose mg mb B₀) (ex : nsIn K mainGlobals (Str.ofString "ValueError") = some none) (ex1 : nsIn K mainGlobals (Str.ofString "TypeError") = some none) (ex2 : nsIn K mainGlobals (Str.ofString "AttributeError") = some none) (hk : cs.kind = .function)
    (hx0 : (envX cn cs L a ccd cl).kindOf (Str.ofString "ValueError") = some .globalImplicit) (hx1 : (envX cn cs L a ccd cl).kindOf (Str.ofString "TypeError") = some .globalImplicit) (hx2 : (envX cn cs L a ccd cl).kindOf (Str.ofString "AttributeError") = some .globalImplicit)
    (k : ∀ h' e2 t v tk, Heap.HeldW B₀ (envX cn cs L a ccd cl :: l0) e2 (.type "ValueError") (.ref t) L h' → h'.TupAt t [v] → B₀.get? t = none → h₁.UpToSlots h' → Ef (.ref e2) { s with heap := h', toks := tk }) :
    wpAny (model prog w) A (noteFrame (.ref e1) (envX cn cs L a ccd cl)) (fun _ s₂ => wpAny (model prog w) A (setFlight (.ref e1) none) (fun _ s₃ =>
      wpAny (model prog w) A (handleBy (.ref e1) (envX cn cs L a ccd cl) [.ExceptHandler (some (.Name (Str.ofString "ValueError") np)) none [.Raise (some (.Call (.Name (Str.ofString "ValueError") np2) [.Constant (.str msg) kk p3] [] cpos)) (some (.Constant .none kk2 p4)) rpos] hpos]) Qi
        (fun e s₁ => wpAny (model prog w) A (noteFrame e (envX cn cs L a ccd cl)) (fun _ s₂ => wpAny (model prog w) A (setFlight e none) (fun _ s₃ =>
          wpAny (model prog w) A (handleBy e (envX cn cs L a ccd cl) [.ExceptHandler (some (.Tuple [.Name (Str.ofString "TypeError") p1, .Name (Str.ofString "AttributeError") p2] kk3 tpos)) none (b₀ :: suite) pos]) Qo Ef s₃) Ef s₂) Ef s₁) s₃)
        (fun e s₁ => wpAny (model prog w) A (noteFrame e (envX cn cs L a ccd cl)) (fun _ s₂ => wpAny (model prog w) A (setFlight e none) (fun _ s₃ =>
          wpAny (model prog w) A (handleBy e (envX cn cs L a ccd cl) [.ExceptHandler (some (.Tuple [.Name (Str.ofString "TypeError") p1, .Name (Str.ofString "AttributeError") p2] kk3 tpos)) none (b₀ :: suite) pos]) Qo Ef s₃) Ef s₂) Ef s₁) s₂)
        (fun e s₁ => wpAny (model prog w) A (noteFrame e (envX cn cs L a ccd cl)) (fun _ s₂ => wpAny (model prog w) A (setFlight e none) (fun _ s₃ =>
          wpAny (model prog w) A (handleBy e (envX cn cs L a ccd cl) [.ExceptHandler (some (.Tuple [.Name (Str.ofString "TypeError") p1, .Name (Str.ofString "AttributeError") p2] kk3 tpos)) none (b₀ :: suite) pos]) Qo Ef s₃) Ef s₂) Ef s₁) s := by
  obtain ⟨ob, t0, hob, hobc, hobd⟩ := hx.there
  have en : B₀.get? e1 = none := by
    cases q : B₀.get? e1 with
    | none => rfl
    | some o => have := hx.new; rw [hst _ _ q] at this; cases this
  refine noted_first hfr (hfun.of_keeps fun b o e _ => ⟨o, hx.keeps b o e, rfl⟩) rfl hob (fun b o e => hx.keeps _ _ (hst b o e)) en hobd rfl rfl fun h₂ T1 oe' hL hg hdd => ?_
  obtain ⟨l1, l2, l3, l4⟩ := hL
  rw [hobc] at l3
  have sm₂ : h₁.UpToSlots h₂ := (Heap.UpToSlots.of_keeps hx.keeps).trans l4
  have F₂ : Fr B₀ L h₂ m := F.of_stays l1 sm₂
  refine clause_raise (s := { s with heap := h₂ }) hfr ⟨l1, en, l2, l3⟩ hg hdd (by rfl) F₂ X T ex hk hx0 fun h₃ e2 t v tk held tup ht sm₃ => ?_
  refine wpAny_noteFrame_againW (s := { s with heap := h₃, toks := tk }) rfl held.2.2.2 ?_
  refine wpAny_landsW (s := { s with heap := h₃, toks := tk }) held fun h₄ hfl₄ sm₄ => ?_
  have F₄ : Fr B₀ L h₄ m := F₂.of_stays hfl₄.1 (sm₃.trans sm₄)
  refine clause_miss (s := { s with heap := h₄, toks := tk }) hfl₄ F₄ X T ex1 ex2 hk hx1 hx2 fun h₅ held₅ sm₅ => ?_
  exact k h₅ e2 t v tk held₅ (tup.of_slots (sm₄.trans sm₅)) ht (((sm₂.trans sm₃).trans sm₄).trans sm₅)
end
end
section
set_option maxRecDepth 100000
set_option maxHeartbeats 8000000
open Sem (wp)
/-- a call of the def at f upon vs: an exception of the class cls flies -/
def RX (w : World) (n : Nat) (f : Addr) (vs : List Value) (pre : Heap → Prop) (cls : String) : Prop :=
  ∀ (mean : ExcName → Option Value) (mg mb : Str → Option Value) (dp un : Nat) (gd : Option (List Code)) (cn : Str) (cs : Scope) (a : Addr) (ccd : Value) (cl : List (Str × Addr)) (outer : List Env) (A₀ : Around) (base h₀ : Heap) (L : Addr) (m : Str → Option Value) (s : Shared) (Q E : Value → Shared → Prop) (news : List (Addr × Obj)),
    Below A₀ base outer h₀ → (hd.heap_1 w.params).In base → Top hd.view_39 (looseW hd.view_39 [Str.ofString "_safe_string"]) mean mg mb base → Fr h₀ L s.heap m → (hd.heap_1 w.params).In h₀ → Top hd.view_39 (looseW hd.view_39 [Str.ofString "_safe_string"]) mean mg mb h₀ → News h₀ L s.heap news → cs.kind = .function → dp + n < recursionLimit → un + 8 * n < cLine → pre s.heap →
    (∀ e t xs h' tk', Fr h₀ L (hideAll s.heap (news.map (·.1))) m → RaisedS base (hideAll s.heap (news.map (·.1))) (envX cn cs L a ccd cl :: outer) e (.type cls) t xs news h' → (hideAll s.heap (news.map (·.1))).UpToSlots h' → E (.ref e) { s with heap := h', toks := tk' }) →
    wpAny (model PySem.Challenge.rw_in0025_01.row.prog w) (ktrTop dp un gd cn cs L a ccd cl outer) (call (.ref f) vs) Q E s
theorem hide_up {h h' : Heap} {as : List Addr} (x : h.UpToSlots h') : (hideAll h as).UpToSlots h' := fun b o e hn => x b o (of_hideAll _ e) hn
section
variable {prog : Program} {w : World} {A₀ : Around} {s s₂ : Shared} {base h₀ : Heap} {outer : List Env} {L a L' a' : Addr} {cn cn' : Str} {cs cs' : Scope} {ccd ccd' : Value} {cl cl' : List (Str × Addr)} {m m' mg mb : Str → Option Value} {K : Frag} {p : Program} {loose : List Str} {mean : ExcName → Option Value} {news : List (Addr × Obj)}
theorem rx_chain {A : Around} {e1 : Addr} {h₁ : Heap} {np np2 p3 p4 cpos rpos hpos p1 p2 tpos pos : Pos} {kk kk2 kk3 : Nat} {msg : Str} {b₀ : Stmt} {suite : List Stmt} {Qi Qo : Flow → Shared → Prop} {E Ef : Value → Shared → Prop}
    (B : Below A₀ base outer h₀) (XB : K.In base) (TB : Top p loose mean mg mb base) (F : Fr h₀ L s.heap m) (N : News h₀ L s.heap news) (hck : cs.kind = .function)
    (hfr : A.frames = some (envX cn' cs' L' a' ccd' cl' :: envX cn cs L a ccd cl :: outer)) (F' : Fr s.heap L' h₁ m') (hx : Heap.NewExc h₁ s₂.heap e1 "ValueError")
    (ex : nsIn K mainGlobals (Str.ofString "ValueError") = some none) (ex1 : nsIn K mainGlobals (Str.ofString "TypeError") = some none) (ex2 : nsIn K mainGlobals (Str.ofString "AttributeError") = some none) (hk : cs'.kind = .function)
    (hx0 : (envX cn' cs' L' a' ccd' cl').kindOf (Str.ofString "ValueError") = some .globalImplicit) (hx1 : (envX cn' cs' L' a' ccd' cl').kindOf (Str.ofString "TypeError") = some .globalImplicit) (hx2 : (envX cn' cs' L' a' ccd' cl').kindOf (Str.ofString "AttributeError") = some .globalImplicit)
    (hret : ∀ e t xs h' tk', Fr h₀ L (hideAll s.heap (news.map (·.1))) m → RaisedS base (hideAll s.heap (news.map (·.1))) (envX cn cs L a ccd cl :: outer) e (.type "ValueError") t xs news h' → (hideAll s.heap (news.map (·.1))).UpToSlots h' → E (.ref e) { s₂ with heap := h', toks := tk' })
    (hEf : ∀ e s', wpAny (model prog w) A (leaving (envX cn' cs' L' a' ccd' cl') e) (fun _ s'' => E e s'') (fun _ _ => False) s' → Ef e s') :
    wpAny (model prog w) A (noteFrame (.ref e1) (envX cn' cs' L' a' ccd' cl')) (fun _ s₂ => wpAny (model prog w) A (setFlight (.ref e1) none) (fun _ s₃ =>
      wpAny (model prog w) A (handleBy (.ref e1) (envX cn' cs' L' a' ccd' cl') [.ExceptHandler (some (.Name (Str.ofString "ValueError") np)) none [.Raise (some (.Call (.Name (Str.ofString "ValueError") np2) [.Constant (.str msg) kk p3] [] cpos)) (some (.Constant .none kk2 p4)) rpos] hpos]) Qi
        (fun e s₁ => wpAny (model prog w) A (noteFrame e (envX cn' cs' L' a' ccd' cl')) (fun _ s₂ => wpAny (model prog w) A (setFlight e none) (fun _ s₃ =>
          wpAny (model prog w) A (handleBy e (envX cn' cs' L' a' ccd' cl') [.ExceptHandler (some (.Tuple [.Name (Str.ofString "TypeError") p1, .Name (Str.ofString "AttributeError") p2] kk3 tpos)) none (b₀ :: suite) pos]) Qo Ef s₃) Ef s₂) Ef s₁) s₃)
        (fun e s₁ => wpAny (model prog w) A (noteFrame e (envX cn' cs' L' a' ccd' cl')) (fun _ s₂ => wpAny (model prog w) A (setFlight e none) (fun _ s₃ =>
          wpAny (model prog w) A (handleBy e (envX cn' cs' L' a' ccd' cl') [.ExceptHandler (some (.Tuple [.Name (Str.ofString "TypeError") p1, .Name (Str.ofString "AttributeError") p2] kk3 tpos)) none (b₀ :: suite) pos]) Qo Ef s₃) Ef s₂) Ef s₁) s₂)
        (fun e s₁ => wpAny (model prog w) A (noteFrame e (envX cn' cs' L' a' ccd' cl')) (fun _ s₂ => wpAny (model prog w) A (setFlight e none) (fun _ s₃ =>
          wpAny (model prog w) A (handleBy e (envX cn' cs' L' a' ccd' cl') [.ExceptHandler (some (.Tuple [.Name (Str.ofString "TypeError") p1, .Name (Str.ofString "AttributeError") p2] kk3 tpos)) none (b₀ :: suite) pos]) Qo Ef s₃) Ef s₂) Ef s₁) s₂ := by
  have K' := pushX (env := envX cn cs L a ccd cl) B F rfl hck
  have hin : ∀ env ∈ (envX cn cs L a ccd cl :: outer), ∀ b, env.frame = some b → b ∈ (envX cn cs L a ccd cl :: outer).filterMap (·.frame) := fun env he b hb => List.mem_filterMap.mpr ⟨env, he, hb⟩
  have st : base.StaysIn (hideAll s.heap ((envX cn cs L a ccd cl :: outer).filterMap (·.frame))) := fun b o q => hideAll_get _ (K'.stays b o q) fun hm => by
    rw [(K'.frames.mem hm).1] at q; cases q
  have fr0 := funFrames_hide K'.frames hin
  have hB : ∀ b o, (hideAll s.heap ((envX cn cs L a ccd cl :: outer).filterMap (·.frame))).get? b = some o → s.heap.get? b = some o := fun b o e => of_hideAll _ e
  have hsz : (hideAll s.heap ((envX cn cs L a ccd cl :: outer).filterMap (·.frame))).objs.size = s.heap.objs.size := hideAll_size _ _
  have hl : ∀ q ∈ news, (hideAll s.heap ((envX cn cs L a ccd cl :: outer).filterMap (·.frame))).get? q.1 = some q.2 ∧ (hideAll s.heap (news.map (·.1))).get? q.1 = none ∧ base.get? q.1 = none := fun q hq => by
    refine ⟨hideAll_get _ (N q hq).1 fun hm => ?_, hideAll_none _ (List.mem_map_of_mem hq), fresh_of_stays B.stays (N q hq).2.2⟩
    obtain ⟨env, he, hf⟩ := List.mem_filterMap.mp hm
    rcases List.mem_cons.mp he with rfl | he
    · exact (N q hq).2.1 (Option.some.inj hf).symm
    · obtain ⟨o, ho, _⟩ := (B.frames.mem (List.mem_filterMap.mpr ⟨env, he, hf⟩)).2
      rw [(N q hq).2.2] at ho; cases ho
  have sg : ∀ b o, (hideAll s.heap (news.map (·.1))).get? b = some o → b ∉ (envX cn cs L a ccd cl :: outer).filterMap (·.frame) → (hideAll s.heap ((envX cn cs L a ccd cl :: outer).filterMap (·.frame))).get? b = some o := fun b o q nm => hideAll_get _ (of_hideAll _ q) nm
  obtain ⟨FG, _, _, _⟩ := groundX (R := fun _ _ => True) (env := envX cn cs L a ccd cl) (A := A₀.deeper (envX cn cs L a ccd cl)) B F N K'.stack rfl hck
  generalize hB₀ : hideAll s.heap ((envX cn cs L a ccd cl :: outer).filterMap (·.frame)) = B₀ at *
  have F₁ : Fr B₀ L' h₁ m' := ⟨F'.ns, fun b o e => F'.keep b o (hB b o e), by rw [hsz]; exact F'.above⟩
  have fr1 : h₁.FunFrames B₀ (envX cn' cs' L' a' ccd' cl' :: envX cn cs L a ccd cl :: outer) := by
    refine .cons (by rw [hk]; decide) rfl F'.ns ?_ (fr0.of_keeps fun b o e _ => ⟨o, F'.keep b o e, rfl⟩)
    cases q : B₀.get? L' with
    | none => rfl
    | some o => exact absurd (Heap.lt_size (hB _ _ q)) (Nat.not_lt.mpr F'.above)
  refine mixed_chain (K := K) (p := p) (loose := loose) (mg := mg) (mb := mb) hfr fr1 (fun b o e => F'.keep b o (hB b o e)) hx F₁ (XB.keeps st) (topRead_of (TB.keeps st)) ex ex1 ex2 hk hx0 hx1 hx2 fun h' e2 t v tk held tup ht sm => ?_
  refine hEf _ _ ?_
  unfold leaving
  refine wpAny_bind (wpAny_noteFrame_againW (s := { s₂ with heap := h', toks := tk }) rfl held.2.2.2 ?_)
  refine wpAny_landsW (s := { s₂ with heap := h', toks := tk }) held fun h'' hfl sm' => ?_
  obtain ⟨k1, k2, ⟨_, _, k3⟩, k4⟩ := hfl
  have up : s.heap.UpToSlots h'' := ((Heap.UpToSlots.of_keeps F'.keep).trans sm).trans sm'
  exact hret e2 t [v] h'' tk FG ⟨⟨B₀, st, sg, hl, ⟨k1, k2, k3, k4⟩, ht⟩, tup.of_slots sm'⟩ (hide_up up)
end
end
local macro_rules | `(tactic| kt_len) => `(tactic| (with_reducible refine' len_getD ?h _; (case h => assumption)))
local macro_rules | `(tactic| kt_len) => `(tactic| (with_reducible refine' len_join ?h; (case h => assumption)))
local macro_rules | `(tactic| walk_at "cut") => `(tactic| first | (with_reducible refine' sl_upto ?a ?b; (case b => omega); (case a => walk_at "strs")) | (with_reducible refine' sl_from ?a ?b; (case b => omega); (case a => walk_at "strs")) | (with_reducible refine' sl_init ?a; (case a => walk_at "strs")) | (with_reducible refine' sl_last ?a; (case a => walk_at "strs")) | fail "cut")
local macro_rules | `(tactic| walk_at "compareOp Eq ref ref") => `(tactic| (k_here; (with_reducible show wpAny _ _ (compareOp CmpOp.Eq (Value.ref _) (Value.ref _)) _ _ _); k_dflt (refine' st_eq ?a ?b ?i ?j ?o ?p ?u ?_; (case a => kmk_list); (case b => kmk_list); (case i => walk_at "strs"); (case j => walk_at "strs"); (case o => walk_at "oks"); (case p => walk_at "oks"); (case u => ktr_units))))
local macro_rules | `(tactic| walk_at "ro cells") => `(tactic| (refine' ro_enterC ?k1 ?k2 ?k3 ?k5 ?kA ?kF ?kK ?k6 ?k7 ?k8 ?k9 ?kB ?kD ?_ ?c2 ?c3 ?c4; (case kA => exact rfl); (case kF => exact rfl); (case kK => assumption); (case k1 => k_asm); (case k2 => k_asm); (case k3 => k_asm); (case k5 => k_asm); (case k6 => k_is); (case k7 => k_is); (case k8 => ktr_room); (case k9 => exact BindsTo.of_eq rfl); (case kB => exact rfl); (case kD => decide +kernel); (case c2 => exact rfl); (case c3 => exact rfl); (case c4 => exact rfl); k_whole; intro L' h' tk' cells' F' N' Y' B' X' T'; k_cells Y'; (try simp only [List.cons_append, List.nil_append] at N'); (try dsimp only); (try k_fold)))
section
set_option maxRecDepth 100000
set_option maxHeartbeats 8000000
set_option linter.unusedVariables false
theorem fresh41 : True := by
  w_top off
  trivial
local macro_rules | `(tactic| k_ne) => `(tactic| (refine neN ?_; (try dsimp only); first | with_reducible assumption | (with_reducible refine Ne.symm ?hs9; with_reducible assumption) | exact Nat.ne_of_lt (by with_reducible assumption) | exact Nat.ne_of_gt (by with_reducible assumption) | (simp only [ne_eq, *, not_false_eq_true]; done) | (with_reducible refine Ne.symm ?hs9; simp only [ne_eq, *, not_false_eq_true]; done) | exact Nat.ne_of_lt (by simp only [*]; done) | exact Nat.ne_of_gt (by simp only [*]; done) | ((repeat (with_reducible rename _ ∧ _ => hc9; obtain ⟨_, _⟩ := hc9)); (repeat (with_reducible rename _ ≠ _ => hc9; clear hc9)); omega)))
local macro_rules | `(tactic| lcg_src) => `(tactic| k_mem)

theorem words_T16_0 : True := by
  w_top off
  k_with_none
  k_with "steps" => repeat' ((fail_if_success (with_reducible show VPost _ _ _ _ _ _ _ _ _)); (fail_if_success (with_reducible show WhileStep2 _ _ _ _ _ _ _ _)); (fail_if_success (with_reducible show Stop _)); first | (k_unfold; (try dsimp only)) | walk1 | (dsimp only; walk1) | (leave1; (try dsimp only)) | fail "no step")
  k_with "exec While" => (k_here; (with_reducible show wpAny _ _ (exec (Stmt.While _ _ _ _) _) _ _ _); refine stop_out ?_)
  k_with "exec While BoolOp" => (k_here; (with_reducible show wpAny _ _ (exec (Stmt.While _ _ _ _) _) _ _ _); refine stop_out ?_)
  k_with "exec While BoolOp cons nil" => (k_here; (with_reducible show wpAny _ _ (exec (Stmt.While _ _ _ _) _) _ _ _); refine stop_out ?_)
  k_with "exec While Compare cons nil" => (k_here; (with_reducible show wpAny _ _ (exec (Stmt.While _ _ _ _) _) _ _ _); refine stop_out ?_)
  k_with "len" => first | with_reducible assumption | (with_reducible refine' len_getD (by assumption) _) | (with_reducible refine' len_join (by assumption)) | (with_reducible refine' KT.len_app (by walk_at "len") (by walk_at "len")) | ((with_reducible show (PySem.Str.ofString _).length ≤ _); exact Nat.le_refl _)
  k_with "binaryOp Add str str" => (k_here; (with_reducible show wpAny _ _ (binaryOp Operator.Add (Value.str _ _) (Value.str _ _)) _ _ _); (refine' KXadd.add (by walk_at "len") (by walk_at "len") (by exact Nat.le_of_ble_eq_true rfl) ?_); intro t₉ tk₉ hl₉)
  k_with "truthy str" => (k_here; (with_reducible show wpAny _ _ (PySem.truthy (Value.str _ _)) _ _ _); (refine' truthT (by walk_at "len") (by exact Nat.le_of_ble_eq_true rfl) ?_); intro tk₉)
  k_with "strs" => first | with_reducible assumption | exact StrsAre.nil | exact StrsAre.cons _ _ (by walk_at "strs")
  k_with "fits" => ((try rw [strs_len (by walk_at "strs")]); (try simp only [sizeLine_eq, List.length_append, List.length_cons, List.length_drop, List.length_dropLast, List.length_take, List.length_nil, List.length_reverse, List.length_replicate, Int.toNat_natCast]); omega)
  k_with "subscriptTail Name Slice ref ref" => (k_here; (with_reducible show wpAny _ _ (subscriptTail _ (PySem.Expr.Slice _ _ none _) (Value.ref _) (Value.ref _)) _ _ _); k_dflt (refine' strs_slice (by k_asm) (by k_asm) (by kmk_list) (by kmk_part) (by kmk_part) (by walk_at "cut") ?_ (by with_unfolding_all rfl) (by kmk_pure) (by walk_at "fits")); intro D₉ ws₉ h₉ F₉ N₉ l1₉ hS₉; (try k_lt l1₉); (try k_sweep))
  k_with "binaryOp Add ref ref" => (k_here; (with_reducible show wpAny _ _ (binaryOp _ (Value.ref _) (Value.ref _)) _ _ _); k_dflt (refine' strs_cat (by k_asm) (by k_asm) (by kmk_list) (by kmk_list) (by walk_at "strs") (by walk_at "strs") ?_ (by walk_at "fits")); intro D₉ ws₉ h₉ F₉ N₉ l1₉ hS₉; (try k_lt l1₉); (try k_sweep))
  k_with "oks" => first | with_reducible assumption | decide +kernel | exact fun z hz => (by assumption : ∀ z ∈ _, PyData.strOk z = true) z (List.mem_of_mem_take hz) | exact fun z hz => (by assumption : ∀ z ∈ _, PyData.strOk z = true) z (List.mem_of_mem_drop hz)
  k_with "weighs" => first | omega | ((try simp only [wt_append, wt_cons, wt_nil]); omega) | (refine Nat.le_trans (wt_init _) ?_; walk_at "weighs") | (refine Nat.le_trans (wt_drop _ _) ?_; walk_at "weighs") | (refine Nat.le_trans (wt_take _ _) ?_; walk_at "weighs")
  k_with "call builtin:str.join" => (k_here; (with_reducible show wpAny _ _ (call (Value.builtin _) [Value.str _ _, Value.ref _]) _ _ _); k_dflt (refine' join_wt (by kmk_list) (by walk_at "strs") (by decide +kernel) (by walk_at "weighs") ?_); intro t₉ tk₉)
  k_with "subscriptTail Name Slice ref ref" => (k_here; (with_reducible show wpAny _ _ (subscriptTail _ (PySem.Expr.Slice none none (some _) _) (Value.ref _) (Value.ref _)) _ _ _); k_dflt (refine' strs_back (by k_asm) (by k_asm) (by kmk_list) (by kmk_part) (by walk_at "strs") ?_ (by with_unfolding_all rfl) (by kmk_pure) (by walk_at "fits")); intro D₉ ws₉ h₉ F₉ N₉ l1₉ hS₉; (try k_lt l1₉); (try k_sweep))
  k_with "binaryOp Mult ref int" => (k_here; (with_reducible show wpAny _ _ (binaryOp Operator.Mult (Value.ref _) (Value.int _ _)) _ _ _); k_dflt (refine' strs_rep (by k_asm) (by k_asm) (by k_mem) (by first | omega | decide) (by first | omega | decide) ?_); intro D₉ ws₉ h₉ F₉ N₉ l1₉ hS₉; (try k_lt l1₉); (try k_sweep))
  k_with "truthy ref" => (k_here; (with_reducible show wpAny _ _ (truthy (Value.ref _)) _ _ _); k_dflt (refine' strs_truth (by kmk_list) (by walk_at "strs") (by walk_at "fits") ?_); intro tk₉)
  k_with "subscriptTail Subscript Name Constant Slice ref ref" => (k_here; (with_reducible show wpAny _ _ (subscriptTail _ (PySem.Expr.Slice _ _ none _) (Value.ref _) (Value.ref _)) _ _ _); k_dflt (refine' strs_slice (by k_asm) (by k_asm) (by kmk_list) (by kmk_part) (by kmk_part) (by walk_at "cut") ?_ (by with_unfolding_all rfl) (by kmk_pure) (by walk_at "fits")); intro D₉ ws₉ h₉ F₉ N₉ l1₉ hS₉; (try k_lt l1₉); (try k_sweep))
  k_with "subscriptTail Subscript Name Constant Slice ref ref" => (k_here; (with_reducible show wpAny _ _ (subscriptTail _ (PySem.Expr.Slice none none (some _) _) (Value.ref _) (Value.ref _)) _ _ _); k_dflt (refine' strs_back (by k_asm) (by k_asm) (by kmk_list) (by kmk_part) (by walk_at "strs") ?_ (by with_unfolding_all rfl) (by kmk_pure) (by walk_at "fits")); intro D₉ ws₉ h₉ F₉ N₉ l1₉ hS₉; (try k_lt l1₉); (try k_sweep))
  k_with "call builtin:str.split" => (k_here; (with_reducible show wpAny _ _ (call (Value.builtin "str.split") [Value.str _ _, Value.str _ _]) _ _ _); k_dflt (refine' strs_split (by k_asm) (by k_asm) (by decide +kernel) ?_ (by (rw [sizeLine_eq]; omega))); intro D₉ ws₉ h₉ k₉ F₉ N₉ l1₉ hS₉; (try k_lt l1₉); (try k_sweep))
  k_with "call builtin:list.append" => (k_here; (with_reducible show wpAny _ _ (call (Value.builtin "list.append") [Value.ref _, Value.str _ _]) _ _ _); k_dflt (refine' strs_append2 (by k_asm) (by k_asm) (by k_upd) (by walk_at "strs") (by walk_at "fits") ?_); intro h₉ F₉ N₉ hS₉; (try k_sweep))
  k_with "call builtin:list.pop" => (k_here; (with_reducible show wpAny _ _ (call (Value.builtin "list.pop") [Value.ref _]) _ _ _); k_dflt (refine' strs_pop2 (by k_asm) (by k_asm) (by k_upd) (by walk_at "strs") (by first | assumption | omega | (apply List.length_pos_iff.mpr; assumption)) (by walk_at "fits") ?_); intro h₉ t₉ F₉ N₉ hS₉; (try k_sweep))
  k_with "subscriptTail Name UnaryOp ref int" => (k_here; (with_reducible show wpAny _ _ (subscriptTail _ _ (Value.ref _) (Value.int _ _)) _ _ _); k_dflt (refine' strs_item_last (by kmk_list) (by walk_at "strs") (by walk_at "pos") ?_); intro t₉)
  k_with "pos" => first | assumption | ((try simp only [List.length_append, List.length_cons, List.length_drop, List.length_nil]); omega)
  k_with "subscriptTail Name Constant ref int" => (k_here; (with_reducible show wpAny _ _ (subscriptTail _ _ (Value.ref _) (Value.int _ _)) _ _ _); k_dflt (refine' lit_item (vs := [_, _]) (by exact News.isList (by k_asm) (by k_mem)) (by decide) (by decide) (by rfl) ?_; k_whole))
  k_with "subscriptTail Name Constant ref int" => (k_here; (with_reducible show wpAny _ _ (subscriptTail _ _ (Value.ref _) (Value.int _ _)) _ _ _); k_dflt (refine' strs_item (by kmk_list) (by walk_at "strs") (by decide) (by decide) (by omega) ?_); intro t₉)
  k_with "subscriptTail Subscript Name Constant Constant ref int" => walk_at "subscriptTail Name Constant ref int"
  k_with "call builtin:len" => (k_here; (with_reducible show wpAny _ _ (call (Value.builtin "len") [Value.ref _]) _ _ _); k_dflt (refine' strs_lenR (by kmk_list) (by walk_at "strs") (by walk_at "fits") ?_); intro t₉ tk₉)
  k_with "call builtin:len cons nil [ref ]" => walk_at "call builtin:len"
  k_with "call type:map" => (k_here; (with_reducible show wpAny _ _ (call (Value.type "map") [_, Value.ref _]) _ _ _); k_dflt (refine' map_N (by k_asm) (by k_asm) (by kmk_list) ?_); intro M₉ T₉ I₉ h₉ F₉ N₉ off₉; (try dsimp only); (try k_fold))
  k_with "call type:tuple" => (k_here; (with_reducible show wpAny _ _ (call (Value.type "tuple") [Value.ref _]) _ _ _); k_dflt (refine' tuple_N (by k_asm) (by k_asm) (by k_asm) (by k_asm) (by k_asm) (by first | exact rfl | assumption) (by ktr_room) (by ktr_units) (by kmk_list) (by assumption) ?_); intro D₉ t1₉ t2₉ h₉ tk₉ F₉ N₉ ne₉; (try k_sweep); (try dsimp only); (try k_fold))
  k_with "exec Try" => (k_here; (with_reducible show wpAny _ _ (exec (Stmt.Try _ (_ :: _) _ [] _) (envOfC _ _ _ _ _)) _ _ _); refine wpAny_Try_except ?_)
  k_with "exec Assign cons ListComp" => (k_here; (with_reducible show wpAny _ _ (exec (Stmt.Assign _ (PySem.Expr.ListComp _ [⟨_, PySem.Expr.Tuple _ _ _, _, _⟩] _ _) _) _) _ _ _); k_dflt (refine Assign_ListComp_tup (by k_asm) (by rfl) (by with_unfolding_all rfl) (by with_unfolding_all rfl) (by decide) (by rfl) (by decide) (by rfl) (by rfl) (by rfl) ?_))
  k_with "TupSrc" => (k_here; k_dflt (refine TupSrc.intro (by rfl) (by k_asm) (by k_asm) (by k_mem) (by first | size_fits | exact Nat.le_of_ble_eq_true rfl) ?_); intro g₉; lcg_lit)
  k_with "CompRest" => (with_unfolding_all (refine LCg.CompRest.succ ?_); intro v₉ I₉ oI₉ C₉ oC₉ D₉ m₉ h₉ tk₉ E₉ hv₉ hC₉ hx₉ F₉ N₉ off₉ ne₉; (have hv9₉ := Option.some.inj hv₉); subst hv9₉; (try simp only [LCg.Off3, and_true] at off₉))
  k_with "eval ListComp" => (k_here; k_dflt (refine LCt.ListComp_T (F₀ := by k_asm) (by with_unfolding_all rfl) (by decide) (by rfl) (by decide) (by rfl) ?_))
  k_with "CompEnd" => first | (refine LCg.CompEnd.intro (by assumption) (by assumption) _ (by intro p₉ hp₉; k_ownIn) (by assumption) (by lcg_src) ⟨rfl, ?_⟩; walk_at "filt end") | lcg_end
  k_with "filt end" => first | exact ⟨notin_t (by assumption), _, rfl⟩ | exact notin_f (by assumption)
  k_with "exec Assign cons ListComp" => (k_here; (with_reducible show wpAny _ _ (exec (Stmt.Assign _ (PySem.Expr.ListComp (PySem.Expr.Call _ _ _ _) [⟨_, PySem.Expr.Name _ _, [], _⟩] _ _) _) _) _ _ _); (try (with_reducible rename News _ _ _ (_ ++ _) => lN₉; simp only [List.cons_append, List.nil_append] at lN₉)); k_dflt (refine Assign_ListComp_tup (by k_asm) (by rfl) (by with_unfolding_all rfl) (by with_unfolding_all rfl) (by decide) (by rfl) (by decide) (by rfl) (by rfl) (by rfl) ?_))
  k_with "eval SetComp" => (k_here; k_dflt (refine SetComp_tup (fun y => Txt.startswith y (Str.ofString "/")) (by k_asm) (by with_unfolding_all rfl) (by decide) (by rfl) (by decide) (by rfl) ?_))
  k_with "SetSrc" => (k_here; k_dflt ((refine SetSrc.intro (by rfl) (by k_asm) (by k_asm) (by k_mem) ?_ ?_); (all_goals first
  | (intro p₉ t₉ I₉ oI₉ C₉ oC₉ D₉ oD₉ m₉ h₉ tk₉ E₉ hp₉ hC₉ hx₉ F₉ N₉ off₉ ne₉; (have hpl₉ : p₉.length ≤ 60000 := (by (cases hp₉ with | inl q => (rw [q]; assumption) | inr q => (rw [q]; assumption)))); (try simp only [LCg.Off3, and_true] at off₉))
  | (intro D₉ h₉ tk₉ F₉ N₉ off₉; (try simp only [LCg.Off1, and_true] at off₉)))))
  k_with "CompEnd bool" => (refine LCg.CompEnd.intro (by assumption) (by assumption) _ (by intro p₉ hp₉; k_ownIn) (by assumption) (by lcg_src) ⟨rfl, rfl⟩)
  k_with "assign Tuple" => (k_here; (with_reducible show wpAny _ _ (assign (PySem.Expr.Tuple [PySem.Expr.Name _ _] _ _) _ (Value.ref _)) _ _ _); refine stop_out ?_)
  trivial
theorem common_bad (w : World) (l : Addr) (x y : Str) (t u : Tok) (hx : x.length ≤ 60000) (hy : y.length ≤ 60000) (hxy : Txt.startswith y (Str.ofString "/") ≠ Txt.startswith x (Str.ofString "/")) : RX w 30 156 [.ref l] (fun h => h.IsList l (List.toArray [.str x t, .str y u])) "ValueError" := by
  unfold RX
  k_fill
  intro mean mg mb dp un gd cn cs a ccd cl outer A₀ base h₀ L m s Q E news B XB TB F X T N hk hd hu hpre hret
  refine wpAny_call ?_
  k_dflt walk_at "ro cells"
  have hl : s.heap.IsList l (List.toArray [.str x t, .str y u]) := hpre
  have hsx : (Txt.split x (Str.ofString "/")).length ≤ 60001 := by have := split_wt x; have := wt_len (Txt.split x (Str.ofString "/")); omega
  have hsy : (Txt.split y (Str.ofString "/")).length ≤ 60001 := by have := split_wt y; have := wt_len (Txt.split y (Str.ofString "/")); omega
  walk_at "steps"
  unfold Stop
  rename Fr s.heap _ _ _ => F5
  rename News s.heap _ _ _ => N5
  refine assign_set2 rfl F5 N5 (by k_mem) hxy fun h₁ h' tk e F9 N9 hx9 => ?_
  refine rx_chain (K := Mine.hd.heap_1 w.params) B XB TB F N hk rfl F9 hx9 (by k_is) (by k_is) (by k_is) rfl rfl rfl rfl hret fun e' s' hq => ?_
  exact wpAny_mono hq (fun _ _ q => q) (fun _ _ q => q.elim)
end
local macro_rules | `(tactic| walk_at "rs in") => `(tactic| (refine' code_defS0 ?k1 ?k2 ?k3 ?k4 ?k5 ?kA ?k6 ?k7 ?k8 ?k9 ?kB ?_ ?cK ?c2 ?c3 ?c4 ?c5; (case kA => exact rfl); (case k2 => k_asm); (case k1 => k_asm); (case k3 => k_asm); (case k4 => k_asm); (case k5 => k_asm); (case k6 => k_is); (case k7 => k_is); (case k8 => ktr_room); (case k9 => first | exact binds_K (by k_in) rfl (by k_is) rfl rfl rfl | exact BindsTo.of_eq rfl); (case kB => exact locs rfl); (case cK => assumption); (case c2 => exact rfl); (case c3 => exact rfl); (case c4 => exact rfl); (case c5 => decide); k_whole; intro g' L' h' FG' F' N' B' X' T' D'; (try dsimp only); (try k_fold)))
section
set_option maxRecDepth 100000
set_option maxHeartbeats 8000000
set_option linter.unusedVariables false
theorem fresh42 : True := by
  w_top off
  trivial
local macro_rules | `(tactic| k_mem) => `(tactic| walk_at "mem")
local macro_rules | `(tactic| k_room) => `(tactic| ktr_room)

theorem words_T12_0 : True := by
  w_top off
  k_with_none
  k_with "eval Name" => (k_here; (first | (with_reducible show wpAny _ _ (eval (PySem.Expr.Name (Str.ofString "issubclass") _) _) _ _ _) | (with_reducible show wpAny _ _ (eval (PySem.Expr.Name (Str.ofString "complex") _) _) _ _ _) | (with_reducible show wpAny _ _ (eval (PySem.Expr.Name (Str.ofString "bytearray") _) _) _ _ _)); (with_reducible rename Fr _ _ _ _ => kF₉); with_unfolding_all refine guard_global (by rfl) ?_; k_dflt (refine' name_B kF₉ (by k_asm) (by k_asm) (by k_is) (by boot_by_name) (by decide) ?_; k_whole))
  k_with "getAttr ref true" => (k_here; k_dflt (refine' fun_attrK (by k_in) (by k_is) (by rfl) (by rfl) (by first | (dsimp only; done) | (dsimp only; exact rfl)) (by decide +kernel) ?_); intro _ _)
  k_with "safe" => (with_reducible refine safe_len _ _ _ _ _ _ (by decide +kernel) (by decide +kernel) (by assumption) (by decide +kernel) (by decide +kernel) (by decide +kernel))
  k_with "And" => ((with_reducible show (PySem.Str.length (_ ++ PySem.Str.ofString "() failed>") ≤ _) ∧ _); refine And.intro (by walk_at "safe") ?_)
  k_with "joinParts" => (k_here; (with_reducible show wpAny _ _ (joinParts (_ ++ PySem.Str.ofString "() failed>") (evalEach [] _)) _ _ _); with_reducible refine joinParts_nilE ?_; with_reducible refine joinParts_nil ?_ (by walk_at "safe"))
  k_with "steps" => repeat' ((fail_if_success (with_reducible show VPost _ _ _ _ _ _ _ _ _)); (fail_if_success (with_reducible show WhileStep2 _ _ _ _ _ _ _ _)); (fail_if_success (with_reducible show Stop _)); first | (k_unfold; (try dsimp only)) | walk1 | (dsimp only; walk1) | (leave1; (try dsimp only)) | fail "no step")
  k_with "mem" => first | exact List.mem_cons_self .. | ktr_member | (refine' List.mem_cons_of_mem _ ?_; walk_at "mem")
  k_with "call builtin:issubclass" => (k_here; k_dflt (refine' call_isn md_list (by exact (News.get (by k_asm) (by k_mem))) sub_list ?_; k_whole); intro tk₉; (try dsimp only [List.any]))
  k_with "lst" => first | assumption | exact Fr.lst (by assumption) (by walk_at "lst")
  k_with "call type:type" => (k_here; (with_reducible show wpAny _ _ (call (Value.type "type") [Value.ref _]) _ _ _); k_dflt (refine' call_type_of (Tx := "list") (by exact Heap.IsList.typeIs (by walk_at "lst")) (by decide +kernel) ?_; k_whole))
  k_with "call type:type" => (k_here; (with_reducible show wpAny _ _ (call (Value.type "type") [Value.type "list"]) _ _ _); k_dflt (refine call_type_of (Tx := "type") type_list (by decide +kernel) ?_))
  k_with "call builtin:getattr" => (k_here; (with_reducible show wpAny _ _ (call (Value.builtin _) [Value.type "list", Value.str _ _, Value.none]) _ _ _); k_dflt (refine' getattr_N (by k_asm) (by k_asm) (by exact rfl) ?_); intro h₉ tk₉ F₉ N₉; (try k_sweep))
  k_with "call type:type" => (k_here; (with_reducible show wpAny _ _ (call (Value.type "type") [Value.ref _]) _ _ _); k_dflt (refine' call_type_of (Tx := "list") (by exact Heap.IsList.typeIs (News.isList (by k_asm) (by k_mem))) (by decide +kernel) ?_; k_whole))
  k_with "exec While" => (k_here; (with_reducible show wpAny _ _ (exec (Stmt.While _ _ _ _) _) _ _ _); refine stop_out ?_)
  k_with "exec While BoolOp" => (k_here; (with_reducible show wpAny _ _ (exec (Stmt.While _ _ _ _) _) _ _ _); refine stop_out ?_)
  k_with "exec While BoolOp cons nil" => (k_here; (with_reducible show wpAny _ _ (exec (Stmt.While _ _ _ _) _) _ _ _); refine stop_out ?_)
  k_with "exec While Compare cons nil" => (k_here; (with_reducible show wpAny _ _ (exec (Stmt.While _ _ _ _) _) _ _ _); refine stop_out ?_)
  k_with "len" => first | with_reducible assumption | (with_reducible refine' len_getD (by assumption) _) | (with_reducible refine' len_join (by assumption)) | (with_reducible refine' KT.len_app (by walk_at "len") (by walk_at "len")) | ((with_reducible show (PySem.Str.ofString _).length ≤ _); exact Nat.le_refl _)
  k_with "binaryOp Add str str" => (k_here; (with_reducible show wpAny _ _ (binaryOp Operator.Add (Value.str _ _) (Value.str _ _)) _ _ _); (refine' KXadd.add (by walk_at "len") (by walk_at "len") (by exact Nat.le_of_ble_eq_true rfl) ?_); intro t₉ tk₉ hl₉)
  k_with "truthy str" => (k_here; (with_reducible show wpAny _ _ (PySem.truthy (Value.str _ _)) _ _ _); (refine' truthT (by walk_at "len") (by exact Nat.le_of_ble_eq_true rfl) ?_); intro tk₉)
  k_with "strs" => first | with_reducible assumption | exact StrsAre.nil | exact StrsAre.cons _ _ (by walk_at "strs")
  k_with "fits" => ((try rw [strs_len (by walk_at "strs")]); (try simp only [sizeLine_eq, List.length_append, List.length_cons, List.length_drop, List.length_dropLast, List.length_take, List.length_nil, List.length_reverse, List.length_replicate, Int.toNat_natCast]); omega)
  k_with "subscriptTail Name Slice ref ref" => (k_here; (with_reducible show wpAny _ _ (subscriptTail _ (PySem.Expr.Slice _ _ none _) (Value.ref _) (Value.ref _)) _ _ _); k_dflt (refine' strs_slice (by k_asm) (by k_asm) (by kmk_list) (by kmk_part) (by kmk_part) (by walk_at "cut") ?_ (by with_unfolding_all rfl) (by kmk_pure) (by walk_at "fits")); intro D₉ ws₉ h₉ F₉ N₉ l1₉ hS₉; (try k_lt l1₉); (try k_sweep))
  k_with "binaryOp Add ref ref" => (k_here; (with_reducible show wpAny _ _ (binaryOp _ (Value.ref _) (Value.ref _)) _ _ _); k_dflt (refine' strs_cat (by k_asm) (by k_asm) (by kmk_list) (by kmk_list) (by walk_at "strs") (by walk_at "strs") ?_ (by walk_at "fits")); intro D₉ ws₉ h₉ F₉ N₉ l1₉ hS₉; (try k_lt l1₉); (try k_sweep))
  k_with "oks" => first | with_reducible assumption | decide +kernel | exact fun z hz => (by assumption : ∀ z ∈ _, PyData.strOk z = true) z (List.mem_of_mem_take hz) | exact fun z hz => (by assumption : ∀ z ∈ _, PyData.strOk z = true) z (List.mem_of_mem_drop hz)
  k_with "weighs" => first | omega | ((try simp only [wt_append, wt_cons, wt_nil]); omega) | (refine Nat.le_trans (wt_init _) ?_; walk_at "weighs") | (refine Nat.le_trans (wt_drop _ _) ?_; walk_at "weighs") | (refine Nat.le_trans (wt_take _ _) ?_; walk_at "weighs")
  k_with "call builtin:str.join" => (k_here; (with_reducible show wpAny _ _ (call (Value.builtin _) [Value.str _ _, Value.ref _]) _ _ _); k_dflt (refine' join_wt (by kmk_list) (by walk_at "strs") (by decide +kernel) (by walk_at "weighs") ?_); intro t₉ tk₉)
  k_with "subscriptTail Name Slice ref ref" => (k_here; (with_reducible show wpAny _ _ (subscriptTail _ (PySem.Expr.Slice none none (some _) _) (Value.ref _) (Value.ref _)) _ _ _); k_dflt (refine' strs_back (by k_asm) (by k_asm) (by kmk_list) (by kmk_part) (by walk_at "strs") ?_ (by with_unfolding_all rfl) (by kmk_pure) (by walk_at "fits")); intro D₉ ws₉ h₉ F₉ N₉ l1₉ hS₉; (try k_lt l1₉); (try k_sweep))
  k_with "binaryOp Mult ref int" => (k_here; (with_reducible show wpAny _ _ (binaryOp Operator.Mult (Value.ref _) (Value.int _ _)) _ _ _); k_dflt (refine' strs_rep (by k_asm) (by k_asm) (by k_mem) (by first | omega | decide) (by first | omega | decide) ?_); intro D₉ ws₉ h₉ F₉ N₉ l1₉ hS₉; (try k_lt l1₉); (try k_sweep))
  k_with "truthy ref" => (k_here; (with_reducible show wpAny _ _ (truthy (Value.ref _)) _ _ _); k_dflt (refine' strs_truth (by kmk_list) (by walk_at "strs") (by walk_at "fits") ?_); intro tk₉)
  k_with "subscriptTail Subscript Name Constant Slice ref ref" => (k_here; (with_reducible show wpAny _ _ (subscriptTail _ (PySem.Expr.Slice _ _ none _) (Value.ref _) (Value.ref _)) _ _ _); k_dflt (refine' strs_slice (by k_asm) (by k_asm) (by kmk_list) (by kmk_part) (by kmk_part) (by walk_at "cut") ?_ (by with_unfolding_all rfl) (by kmk_pure) (by walk_at "fits")); intro D₉ ws₉ h₉ F₉ N₉ l1₉ hS₉; (try k_lt l1₉); (try k_sweep))
  k_with "subscriptTail Subscript Name Constant Slice ref ref" => (k_here; (with_reducible show wpAny _ _ (subscriptTail _ (PySem.Expr.Slice none none (some _) _) (Value.ref _) (Value.ref _)) _ _ _); k_dflt (refine' strs_back (by k_asm) (by k_asm) (by kmk_list) (by kmk_part) (by walk_at "strs") ?_ (by with_unfolding_all rfl) (by kmk_pure) (by walk_at "fits")); intro D₉ ws₉ h₉ F₉ N₉ l1₉ hS₉; (try k_lt l1₉); (try k_sweep))
  k_with "call builtin:str.split" => (k_here; (with_reducible show wpAny _ _ (call (Value.builtin "str.split") [Value.str _ _, Value.str _ _]) _ _ _); k_dflt (refine' strs_split (by k_asm) (by k_asm) (by decide +kernel) ?_ (by (rw [sizeLine_eq]; omega))); intro D₉ ws₉ h₉ k₉ F₉ N₉ l1₉ hS₉; (try k_lt l1₉); (try k_sweep))
  k_with "call builtin:list.append" => (k_here; (with_reducible show wpAny _ _ (call (Value.builtin "list.append") [Value.ref _, Value.str _ _]) _ _ _); k_dflt (refine' strs_append2 (by k_asm) (by k_asm) (by k_upd) (by walk_at "strs") (by walk_at "fits") ?_); intro h₉ F₉ N₉ hS₉; (try k_sweep))
  k_with "call builtin:list.pop" => (k_here; (with_reducible show wpAny _ _ (call (Value.builtin "list.pop") [Value.ref _]) _ _ _); k_dflt (refine' strs_pop2 (by k_asm) (by k_asm) (by k_upd) (by walk_at "strs") (by first | assumption | omega | (apply List.length_pos_iff.mpr; assumption)) (by walk_at "fits") ?_); intro h₉ t₉ F₉ N₉ hS₉; (try k_sweep))
  k_with "subscriptTail Name UnaryOp ref int" => (k_here; (with_reducible show wpAny _ _ (subscriptTail _ _ (Value.ref _) (Value.int _ _)) _ _ _); k_dflt (refine' strs_item_last (by kmk_list) (by walk_at "strs") (by walk_at "pos") ?_); intro t₉)
  k_with "pos" => first | assumption | ((try simp only [List.length_append, List.length_cons, List.length_drop, List.length_nil]); omega)
  k_with "subscriptTail Name Constant ref int" => (k_here; (with_reducible show wpAny _ _ (subscriptTail _ _ (Value.ref _) (Value.int _ _)) _ _ _); k_dflt (refine' lit_item (vs := [_, _]) (by exact News.isList (by k_asm) (by k_mem)) (by decide) (by decide) (by rfl) ?_; k_whole))
  k_with "subscriptTail Name Constant ref int" => (k_here; (with_reducible show wpAny _ _ (subscriptTail _ _ (Value.ref _) (Value.int _ _)) _ _ _); k_dflt (refine' strs_item (by kmk_list) (by walk_at "strs") (by decide) (by decide) (by omega) ?_); intro t₉)
  k_with "subscriptTail Subscript Name Constant Constant ref int" => walk_at "subscriptTail Name Constant ref int"
  k_with "call builtin:len" => (k_here; (with_reducible show wpAny _ _ (call (Value.builtin "len") [Value.ref _]) _ _ _); k_dflt (refine' strs_lenR (by kmk_list) (by walk_at "strs") (by walk_at "fits") ?_); intro t₉ tk₉)
  k_with "call builtin:len cons nil [ref ]" => walk_at "call builtin:len"
  trivial
/-- the words in an answer's stead -/
def failT (x y : Str) : Str := Str.ofString "<" ++ x ++ Str.ofString " " ++ y ++ Str.ofString "() failed>"
theorem safe_norm_list (w : World) (l : Addr) (us : List Value) (c : Nat) (x : Str) (t : Tok) (news : List (Addr × Obj)) (hl : (l, listOf (List.toArray us) c) ∈ news) (hx : x.length ≤ 60000) : RS w 9 29 [.ref l, .str x t, .ref 151] news (failT x (Str.ofString "normpath")) := by
  unfold RS
  k_fill
  intro mean mg mb dp un gd cn cs a ccd A₀ base h₀ L m s Q E B XB TB F X N T hk hd hu hret
  refine wpAny_call ?_
  k_dflt walk_at "rs in"
  walk_at "steps"
  rename Fr h₀ L _ m => kF
  rename News h₀ L _ _ => kN
  refine rs_end hret kF kN ?_ ?_
  · intro p hp
    exact List.mem_cons_of_mem _ hp
  · rw [Str.empty_append]; rfl
theorem safe_dir_list (w : World) (l : Addr) (us : List Value) (c : Nat) (x : Str) (t : Tok) (news : List (Addr × Obj)) (hl : (l, listOf (List.toArray us) c) ∈ news) (hx : x.length ≤ 60000) : RS w 9 29 [.ref l, .str x t, .ref 144] news (failT x (Str.ofString "dirname")) := by
  unfold RS
  k_fill
  intro mean mg mb dp un gd cn cs a ccd A₀ base h₀ L m s Q E B XB TB F X N T hk hd hu hret
  refine wpAny_call ?_
  k_dflt walk_at "rs in"
  walk_at "steps"
  rename Fr h₀ L _ m => kF
  rename News h₀ L _ _ => kN
  refine rs_end hret kF kN ?_ ?_
  · intro p hp
    exact List.mem_cons_of_mem _ hp
  · rw [Str.empty_append]; rfl
theorem safe_base_list (w : World) (l : Addr) (us : List Value) (c : Nat) (x : Str) (t : Tok) (news : List (Addr × Obj)) (hl : (l, listOf (List.toArray us) c) ∈ news) (hx : x.length ≤ 60000) : RS w 9 29 [.ref l, .str x t, .ref 137] news (failT x (Str.ofString "basename")) := by
  unfold RS
  k_fill
  intro mean mg mb dp un gd cn cs a ccd A₀ base h₀ L m s Q E B XB TB F X N T hk hd hu hret
  refine wpAny_call ?_
  k_dflt walk_at "rs in"
  walk_at "steps"
  rename Fr h₀ L _ m => kF
  rename News h₀ L _ _ => kN
  refine rs_end hret kF kN ?_ ?_
  · intro p hp
    exact List.mem_cons_of_mem _ hp
  · rw [Str.empty_append]; rfl
end
section
set_option maxRecDepth 100000
set_option maxHeartbeats 8000000
set_option linter.unusedVariables false
theorem fresh43 : True := by
  w_top off
  trivial
local macro_rules | `(tactic| k_mem) => `(tactic| walk_at "mem")
local macro_rules | `(tactic| k_room) => `(tactic| ktr_room)
local macro_rules | `(tactic| walk_at "call ref") => `(tactic| (k_here; k_dflt (rename RX _ 30 _ _ _ _ => C; (refine' C ?mean ?mg ?mb ?dp ?un ?gd ?cn ?cs ?a ?ccd ?cl ?outer ?A₀ ?base ?h₀ ?L ?m ?s ?Q ?E ?news ?k1 ?k2 ?k3 ?k4 ?k5 ?k6 ?k7 ?kK ?kd ?ku ?kp ?_; (case k1 => k_asm); (case k2 => k_asm); (case k3 => k_asm); (case k4 => k_asm); (case k5 => k_asm); (case k6 => k_asm); (case k7 => k_asm); (case kK => first | exact rfl | assumption); (case kd => ktr_room); (case ku => ktr_units); (case kp => exact News.isList (by k_asm) (by k_mem)); intro e t xs h' tk' FG R U; (try k_sweep); (try dsimp only); (try k_fold)))))

theorem words_T17_0 : True := by
  w_top off
  k_with_none
  k_with "getAttr ref true" => (k_here; k_dflt (refine' fun_attrK (by k_in) (by k_is) (by rfl) (by rfl) (by first | (dsimp only; done) | (dsimp only; exact rfl)) (by decide +kernel) ?_); intro _ _)
  k_with "safe" => (with_reducible refine safe_len _ _ _ _ _ _ (by decide +kernel) (by decide +kernel) (by assumption) (by decide +kernel) (by decide +kernel) (by decide +kernel))
  k_with "And" => ((with_reducible show (PySem.Str.length (_ ++ PySem.Str.ofString "() failed>") ≤ _) ∧ _); refine And.intro (by walk_at "safe") ?_)
  k_with "joinParts" => (k_here; (with_reducible show wpAny _ _ (joinParts (_ ++ PySem.Str.ofString "() failed>") (evalEach [] _)) _ _ _); with_reducible refine joinParts_nilE ?_; with_reducible refine joinParts_nil ?_ (by walk_at "safe"))
  k_with "steps" => repeat' ((fail_if_success (with_reducible show VPost _ _ _ _ _ _ _ _ _)); (fail_if_success (with_reducible show WhileStep2 _ _ _ _ _ _ _ _)); (fail_if_success (with_reducible show Stop _)); first | (k_unfold; (try dsimp only)) | walk1 | (dsimp only; walk1) | (leave1; (try dsimp only)) | fail "no step")
  k_with "mem" => first | exact List.mem_cons_self .. | ktr_member | (refine' List.mem_cons_of_mem _ ?_; walk_at "mem")
  k_with "exec While" => (k_here; (with_reducible show wpAny _ _ (exec (Stmt.While _ _ _ _) _) _ _ _); refine stop_out ?_)
  k_with "exec While BoolOp" => (k_here; (with_reducible show wpAny _ _ (exec (Stmt.While _ _ _ _) _) _ _ _); refine stop_out ?_)
  k_with "exec While BoolOp cons nil" => (k_here; (with_reducible show wpAny _ _ (exec (Stmt.While _ _ _ _) _) _ _ _); refine stop_out ?_)
  k_with "exec While Compare cons nil" => (k_here; (with_reducible show wpAny _ _ (exec (Stmt.While _ _ _ _) _) _ _ _); refine stop_out ?_)
  k_with "len" => first | with_reducible assumption | (with_reducible refine' len_getD (by assumption) _) | (with_reducible refine' len_join (by assumption)) | (with_reducible refine' KT.len_app (by walk_at "len") (by walk_at "len")) | ((with_reducible show (PySem.Str.ofString _).length ≤ _); exact Nat.le_refl _)
  k_with "binaryOp Add str str" => (k_here; (with_reducible show wpAny _ _ (binaryOp Operator.Add (Value.str _ _) (Value.str _ _)) _ _ _); (refine' KXadd.add (by walk_at "len") (by walk_at "len") (by exact Nat.le_of_ble_eq_true rfl) ?_); intro t₉ tk₉ hl₉)
  k_with "truthy str" => (k_here; (with_reducible show wpAny _ _ (PySem.truthy (Value.str _ _)) _ _ _); (refine' truthT (by walk_at "len") (by exact Nat.le_of_ble_eq_true rfl) ?_); intro tk₉)
  k_with "strs" => first | with_reducible assumption | exact StrsAre.nil | exact StrsAre.cons _ _ (by walk_at "strs")
  k_with "fits" => ((try rw [strs_len (by walk_at "strs")]); (try simp only [sizeLine_eq, List.length_append, List.length_cons, List.length_drop, List.length_dropLast, List.length_take, List.length_nil, List.length_reverse, List.length_replicate, Int.toNat_natCast]); omega)
  k_with "subscriptTail Name Slice ref ref" => (k_here; (with_reducible show wpAny _ _ (subscriptTail _ (PySem.Expr.Slice _ _ none _) (Value.ref _) (Value.ref _)) _ _ _); k_dflt (refine' strs_slice (by k_asm) (by k_asm) (by kmk_list) (by kmk_part) (by kmk_part) (by walk_at "cut") ?_ (by with_unfolding_all rfl) (by kmk_pure) (by walk_at "fits")); intro D₉ ws₉ h₉ F₉ N₉ l1₉ hS₉; (try k_lt l1₉); (try k_sweep))
  k_with "binaryOp Add ref ref" => (k_here; (with_reducible show wpAny _ _ (binaryOp _ (Value.ref _) (Value.ref _)) _ _ _); k_dflt (refine' strs_cat (by k_asm) (by k_asm) (by kmk_list) (by kmk_list) (by walk_at "strs") (by walk_at "strs") ?_ (by walk_at "fits")); intro D₉ ws₉ h₉ F₉ N₉ l1₉ hS₉; (try k_lt l1₉); (try k_sweep))
  k_with "oks" => first | with_reducible assumption | decide +kernel | exact fun z hz => (by assumption : ∀ z ∈ _, PyData.strOk z = true) z (List.mem_of_mem_take hz) | exact fun z hz => (by assumption : ∀ z ∈ _, PyData.strOk z = true) z (List.mem_of_mem_drop hz)
  k_with "weighs" => first | omega | ((try simp only [wt_append, wt_cons, wt_nil]); omega) | (refine Nat.le_trans (wt_init _) ?_; walk_at "weighs") | (refine Nat.le_trans (wt_drop _ _) ?_; walk_at "weighs") | (refine Nat.le_trans (wt_take _ _) ?_; walk_at "weighs")
  k_with "call builtin:str.join" => (k_here; (with_reducible show wpAny _ _ (call (Value.builtin _) [Value.str _ _, Value.ref _]) _ _ _); k_dflt (refine' join_wt (by kmk_list) (by walk_at "strs") (by decide +kernel) (by walk_at "weighs") ?_); intro t₉ tk₉)
  k_with "subscriptTail Name Slice ref ref" => (k_here; (with_reducible show wpAny _ _ (subscriptTail _ (PySem.Expr.Slice none none (some _) _) (Value.ref _) (Value.ref _)) _ _ _); k_dflt (refine' strs_back (by k_asm) (by k_asm) (by kmk_list) (by kmk_part) (by walk_at "strs") ?_ (by with_unfolding_all rfl) (by kmk_pure) (by walk_at "fits")); intro D₉ ws₉ h₉ F₉ N₉ l1₉ hS₉; (try k_lt l1₉); (try k_sweep))
  k_with "binaryOp Mult ref int" => (k_here; (with_reducible show wpAny _ _ (binaryOp Operator.Mult (Value.ref _) (Value.int _ _)) _ _ _); k_dflt (refine' strs_rep (by k_asm) (by k_asm) (by k_mem) (by first | omega | decide) (by first | omega | decide) ?_); intro D₉ ws₉ h₉ F₉ N₉ l1₉ hS₉; (try k_lt l1₉); (try k_sweep))
  k_with "truthy ref" => (k_here; (with_reducible show wpAny _ _ (truthy (Value.ref _)) _ _ _); k_dflt (refine' strs_truth (by kmk_list) (by walk_at "strs") (by walk_at "fits") ?_); intro tk₉)
  k_with "subscriptTail Subscript Name Constant Slice ref ref" => (k_here; (with_reducible show wpAny _ _ (subscriptTail _ (PySem.Expr.Slice _ _ none _) (Value.ref _) (Value.ref _)) _ _ _); k_dflt (refine' strs_slice (by k_asm) (by k_asm) (by kmk_list) (by kmk_part) (by kmk_part) (by walk_at "cut") ?_ (by with_unfolding_all rfl) (by kmk_pure) (by walk_at "fits")); intro D₉ ws₉ h₉ F₉ N₉ l1₉ hS₉; (try k_lt l1₉); (try k_sweep))
  k_with "subscriptTail Subscript Name Constant Slice ref ref" => (k_here; (with_reducible show wpAny _ _ (subscriptTail _ (PySem.Expr.Slice none none (some _) _) (Value.ref _) (Value.ref _)) _ _ _); k_dflt (refine' strs_back (by k_asm) (by k_asm) (by kmk_list) (by kmk_part) (by walk_at "strs") ?_ (by with_unfolding_all rfl) (by kmk_pure) (by walk_at "fits")); intro D₉ ws₉ h₉ F₉ N₉ l1₉ hS₉; (try k_lt l1₉); (try k_sweep))
  k_with "call builtin:str.split" => (k_here; (with_reducible show wpAny _ _ (call (Value.builtin "str.split") [Value.str _ _, Value.str _ _]) _ _ _); k_dflt (refine' strs_split (by k_asm) (by k_asm) (by decide +kernel) ?_ (by (rw [sizeLine_eq]; omega))); intro D₉ ws₉ h₉ k₉ F₉ N₉ l1₉ hS₉; (try k_lt l1₉); (try k_sweep))
  k_with "call builtin:list.append" => (k_here; (with_reducible show wpAny _ _ (call (Value.builtin "list.append") [Value.ref _, Value.str _ _]) _ _ _); k_dflt (refine' strs_append2 (by k_asm) (by k_asm) (by k_upd) (by walk_at "strs") (by walk_at "fits") ?_); intro h₉ F₉ N₉ hS₉; (try k_sweep))
  k_with "call builtin:list.pop" => (k_here; (with_reducible show wpAny _ _ (call (Value.builtin "list.pop") [Value.ref _]) _ _ _); k_dflt (refine' strs_pop2 (by k_asm) (by k_asm) (by k_upd) (by walk_at "strs") (by first | assumption | omega | (apply List.length_pos_iff.mpr; assumption)) (by walk_at "fits") ?_); intro h₉ t₉ F₉ N₉ hS₉; (try k_sweep))
  k_with "subscriptTail Name UnaryOp ref int" => (k_here; (with_reducible show wpAny _ _ (subscriptTail _ _ (Value.ref _) (Value.int _ _)) _ _ _); k_dflt (refine' strs_item_last (by kmk_list) (by walk_at "strs") (by walk_at "pos") ?_); intro t₉)
  k_with "pos" => first | assumption | ((try simp only [List.length_append, List.length_cons, List.length_drop, List.length_nil]); omega)
  k_with "subscriptTail Name Constant ref int" => (k_here; (with_reducible show wpAny _ _ (subscriptTail _ _ (Value.ref _) (Value.int _ _)) _ _ _); k_dflt (refine' lit_item (vs := [_, _]) (by exact News.isList (by k_asm) (by k_mem)) (by decide) (by decide) (by rfl) ?_; k_whole))
  k_with "subscriptTail Name Constant ref int" => (k_here; (with_reducible show wpAny _ _ (subscriptTail _ _ (Value.ref _) (Value.int _ _)) _ _ _); k_dflt (refine' strs_item (by kmk_list) (by walk_at "strs") (by decide) (by decide) (by omega) ?_); intro t₉)
  k_with "subscriptTail Subscript Name Constant Constant ref int" => walk_at "subscriptTail Name Constant ref int"
  k_with "call builtin:len" => (k_here; (with_reducible show wpAny _ _ (call (Value.builtin "len") [Value.ref _]) _ _ _); k_dflt (refine' strs_lenR (by kmk_list) (by walk_at "strs") (by walk_at "fits") ?_); intro t₉ tk₉)
  k_with "call builtin:len cons nil [ref ]" => walk_at "call builtin:len"
  trivial
theorem safe_common_bad (w : World) (l : Addr) (us : List Value) (c : Nat) (z : Str) (u : Tok) (news : List (Addr × Obj)) (hl : (l, listOf (List.toArray us) c) ∈ news) (hz : z.length ≤ 60000) (C : RX w 30 156 [.ref l] (fun h => h.IsList l (List.toArray us)) "ValueError") : RS w 33 29 [.ref l, .str z u, .ref 156] news (failT z (Str.ofString "commonpath")) := by
  unfold RS
  k_fill
  intro mean mg mb dp un gd cn cs a ccd A₀ base h₀ L m s Q E B XB TB F X N T hk hd hu hret
  refine wpAny_call ?_
  k_dflt walk_at "rs in"
  walk_at "steps"
  rename Fr h₀ L _ m => kF
  rename News h₀ L _ _ => kN
  refine rs_end hret kF kN ?_ ?_
  · intro p hp
    exact hp
  · rw [Str.empty_append]; rfl
end
section
open PySem.Builtin PySem.Builtin.Str
set_option maxRecDepth 100000
set_option maxHeartbeats 8000000
def cd (x : Str) : List Nat := x.cps.toList
theorem cd_ext {x y : Str} (h : cd x = cd y) : x = y := by
  cases x with | mk a => cases y with | mk b => congr 1; exact Array.ext' h
theorem cd_app (x y : Str) : cd (x ++ y) = cd x ++ cd y := by
  show (x.cps ++ y.cps).toList = _
  simp [cd]
theorem cd_len (x : Str) : (cd x).length = x.length := by simp [cd, Str.length]
theorem cd_slash : cd (Str.ofString "/") = [47] := by decide +kernel
theorem cd_dot : cd (Str.ofString ".") = [46] := by decide +kernel
theorem cd_dots : cd (Str.ofString "..") = [46, 46] := by decide +kernel
theorem cd_nil : cd (Str.ofString "") = [] := by decide +kernel
theorem cd_empty : cd Str.empty = [] := by decide +kernel
/-- pieces glued with a slash, in codes -/
def jc : List (List Nat) → List Nat
  | [] => []
  | [a] => a
  | a :: b :: r => a ++ 47 :: jc (b :: r)
theorem cd_join : ∀ ss : List Str, cd (Txt.join (Str.ofString "/") ss) = jc (ss.map cd) := by
  intro ss
  show cd (glued _ ss) = _
  rw [StrLaws.glued_eq_join]
  induction ss with
  | nil => exact cd_empty
  | cons a r ih =>
    cases r with
    | nil => rfl
    | cons b r =>
      show cd (a ++ Str.ofString "/" ++ Str.join (Str.ofString "/") (b :: r)) = _
      rw [cd_app, cd_app, ih, cd_slash]
      simp [jc]
theorem cd_slice (x : Str) (l u : Option Int) (a b : Nat) (hab : a ≤ b) (hb : b ≤ x.length) (e : strSliceIndices l u 1 x.length = strSliceIndices (some (a : Int)) (some (b : Int)) 1 x.length) : cd (Txt.slice x l u) = ((cd x).drop a).take (b - a) := by
  have h := StrLaws.sliced_plain x hab hb
  unfold Txt.slice
  rw [e]
  split
  · rename_i q
    have q' : (strSliceIndices (some (a : Int)) (some (b : Int)) 1 x.length).length = x.length := by simpa using q
    rw [StrLaws.strSliceIndices_plain hab hb] at q'
    simp at q'
    have : a = 0 := by omega
    subst this
    have : b = x.length := by omega
    subst this
    rw [← cd_len]
    simp
  · show (List.filterMap _ _).toArray.toList = _
    rw [h]
    rfl
end
section
open PySem.Builtin PySem.Builtin.Str
set_option maxRecDepth 100000
set_option maxHeartbeats 8000000
theorem sidx_upto (k n : Nat) : strSliceIndices none (some (k : Int)) 1 n = strSliceIndices (some ((0 : Nat) : Int)) (some ((min k n : Nat) : Int)) 1 n := by
  unfold strSliceIndices
  simp only [show (1 : Int) > 0 by decide, if_true]
  congr 1
  all_goals ((try split) <;> (try split) <;> omega)
theorem sidx_from (k n : Nat) : strSliceIndices (some (k : Int)) none 1 n = strSliceIndices (some ((min k n : Nat) : Int)) (some ((n : Nat) : Int)) 1 n := by
  unfold strSliceIndices
  simp only [show (1 : Int) > 0 by decide, if_true]
  congr 1
  all_goals ((try split) <;> (try split) <;> omega)
theorem sidx_mid (a b n : Nat) : strSliceIndices (some (a : Int)) (some (b : Int)) 1 n = strSliceIndices (some ((min a n : Nat) : Int)) (some ((min b n : Nat) : Int)) 1 n := by
  unfold strSliceIndices
  simp only [show (1 : Int) > 0 by decide, if_true]
  congr 1
  all_goals ((try split) <;> (try split) <;> omega)
theorem cd_upto (x : Str) (k : Nat) : cd (Txt.slice x none (some (k : Int))) = (cd x).take k := by
  rw [cd_slice x _ _ 0 (min k x.length) (Nat.zero_le _) (Nat.min_le_right _ _) (sidx_upto _ _), ← cd_len]
  simp
theorem cd_from (x : Str) (k : Nat) : cd (Txt.slice x (some (k : Int)) none) = (cd x).drop k := by
  rw [cd_slice x _ _ (min k x.length) x.length (Nat.min_le_right _ _) (Nat.le_refl _) (sidx_from _ _), ← cd_len]
  rcases Nat.le_total k (cd x).length with h | h
  · rw [Nat.min_eq_left h, List.take_of_length_le (by simp)]
  · rw [Nat.min_eq_right h, List.drop_of_length_le h]; simp
theorem cd_mid (x : Str) (a b : Nat) (h : a ≤ b) : cd (Txt.slice x (some (a : Int)) (some (b : Int))) = ((cd x).drop a).take (b - a) := by
  rw [cd_slice x _ _ (min a x.length) (min b x.length) (by omega) (Nat.min_le_right _ _) (sidx_mid _ _ _), ← cd_len]
  rcases Nat.le_total a (cd x).length with h1 | h1
  · rw [Nat.min_eq_left h1]
    rcases Nat.le_total b (cd x).length with h2 | h2
    · rw [Nat.min_eq_left h2]
    · rw [Nat.min_eq_right h2, List.take_of_length_le (by simp), List.take_of_length_le (by simp; omega)]
  · rw [Nat.min_eq_right h1, List.drop_of_length_le h1, List.drop_of_length_le (Nat.le_refl _)]; simp
theorem cd_startswith (x : Str) : Txt.startswith x (Str.ofString "/") = ((cd x).take 1 == [47]) := by
  unfold Txt.startswith
  rw [StrLaws.subAt_eq, show (Str.ofString "/").cps.toList = [47] from cd_slash, show (Str.ofString "/").length = 1 by decide +kernel, ← cd_len]
  show (decide (0 + 1 ≤ (cd x).length) && (((cd x).drop 0).take 1 == [47])) = _
  cases cd x <;> simp
theorem cd_endswith (x : Str) : Txt.endswith x (Str.ofString "/") = ((cd x).drop ((cd x).length - 1) == [47]) := by
  unfold Txt.endswith
  rw [StrLaws.subAt_eq, show (Str.ofString "/").cps.toList = [47] from cd_slash, show (Str.ofString "/").length = 1 by decide +kernel, ← cd_len]
  show (decide (0 + 1 ≤ (cd x).length) && (((cd x).drop ((cd x).length - 1)).take 1 == [47])) = _
  rcases Nat.eq_zero_or_pos (cd x).length with h | h
  · rw [List.length_eq_zero_iff.mp h]; simp
  · rw [List.take_of_length_le (by simp; omega)]
    rw [show decide (0 + 1 ≤ (cd x).length) = true from decide_eq_true (by omega)]; rfl
theorem cd_rfind_none (x : Str) (h : 47 ∉ cd x) : Txt.rfind x (Str.ofString "/") + 1 = ((0 : Nat) : Int) := by
  unfold Txt.rfind
  rcases StrLaws.last_spec x (Str.ofString "/") with ⟨e, _⟩ | ⟨i, e, hi, _⟩
  · rw [e]; rfl
  · exfalso
    have e2 := (StrLaws.subAt_one x 47 i).mp hi
    exact h (List.mem_of_getElem? e2)
theorem cd_rfind (x : Str) (p q : List Nat) (e : cd x = p ++ 47 :: q) (h : 47 ∉ q) : Txt.rfind x (Str.ofString "/") + 1 = ((p.length + 1 : Nat) : Int) := by
  unfold Txt.rfind
  have at' : StrLaws.At x (Str.ofString "/") x.length p.length := (StrLaws.subAt_one x 47 p.length).mpr (by show (cd x)[p.length]? = _; rw [e]; simp)
  rcases StrLaws.last_spec x (Str.ofString "/") with ⟨_, n⟩ | ⟨i, e1, hi, hk⟩
  · exact absurd at' (n _)
  · rw [e1]
    have hi' : (cd x)[i]? = some 47 := (StrLaws.subAt_one x 47 i).mp hi
    have h1 : ¬ i < p.length := fun hlt => hk _ hlt at'
    have h2 : i = p.length := by
      rcases Nat.lt_or_ge p.length i with hlt | hge
      · exfalso
        rw [e, List.getElem?_append_right (by omega)] at hi'
        obtain ⟨d, rfl⟩ : ∃ d, i = p.length + (d + 1) := ⟨i - p.length - 1, by omega⟩
        rw [show p.length + (d + 1) - p.length = d + 1 by omega, List.getElem?_cons_succ] at hi'
        exact h (List.mem_of_getElem? hi')
      · omega
    subst h2
    rfl
end
section
open PySem.Builtin PySem.Builtin.Str
set_option maxRecDepth 100000
set_option maxHeartbeats 8000000
/-- the text of a row -/
def rt (ss : List Str) : Str := Txt.join (Str.ofString "/") ss
theorem cd_rt (ss : List Str) : cd (rt ss) = jc (ss.map cd) := cd_join ss
theorem jc_snoc : ∀ (i : List (List Nat)) (l : List Nat), i ≠ [] → jc (i ++ [l]) = jc i ++ 47 :: l
  | [], _, h => absurd rfl h
  | [a], l, _ => rfl
  | a :: b :: r, l, _ => by
    show a ++ 47 :: jc ((b :: r) ++ [l]) = (a ++ 47 :: jc (b :: r)) ++ 47 :: l
    rw [jc_snoc (b :: r) l (by simp)]
    simp
theorem rt_snoc (i : List Str) (l : Str) (h : i ≠ []) : cd (rt (i ++ [l])) = cd (rt i) ++ 47 :: cd l := by
  rw [cd_rt, cd_rt, List.map_append]
  exact jc_snoc _ _ (by simpa using h)
theorem rt_one (l : Str) : rt [l] = l := cd_ext (by rw [cd_rt]; rfl)
theorem jc_app : ∀ (a b : List (List Nat)), a ≠ [] → b ≠ [] → jc (a ++ b) = jc a ++ 47 :: jc b
  | [], _, h, _ => absurd rfl h
  | [x], y :: b, _, _ => rfl
  | [_], [], _, h => absurd rfl h
  | x :: y :: a, b, _, hb => by
    show x ++ 47 :: jc ((y :: a) ++ b) = (x ++ 47 :: jc (y :: a)) ++ 47 :: jc b
    rw [jc_app (y :: a) b (by simp) hb]
    simp
def ns (ss : List Str) : Prop := ∀ p ∈ ss, 47 ∉ cd p
theorem base_row (i : List Str) (l : Str) (h : 47 ∉ cd l) : baseT (rt (i ++ [l])) = l := by
  apply cd_ext
  unfold baseT
  rcases i with _ | ⟨a, r⟩
  · rw [List.nil_append, rt_one, cd_rfind_none l h, cd_from]; rfl
  · rw [cd_rfind _ _ _ (rt_snoc (a :: r) l (by simp)) h, cd_from, rt_snoc (a :: r) l (by simp), List.drop_append]
    simp
theorem head_row (i : List Str) (l : Str) (h : 47 ∉ cd l) : cd (headT (rt (i ++ [l]))) = if i = [] then [] else cd (rt i) ++ [47] := by
  unfold headT
  rcases i with _ | ⟨a, r⟩
  · rw [List.nil_append, rt_one, cd_rfind_none l h, cd_upto]; rfl
  · rw [cd_rfind _ _ _ (rt_snoc (a :: r) l (by simp)) h, cd_upto, rt_snoc (a :: r) l (by simp), List.take_append, if_neg (by simp)]
    rw [List.take_of_length_le (by omega), show (cd (rt (a :: r))).length + 1 - (cd (rt (a :: r))).length = 1 by omega]
    rfl
end
section
open PySem.Builtin PySem.Builtin.Str
set_option maxRecDepth 100000
set_option maxHeartbeats 8000000
/-- codes without the slashes at the end -/
def rs (l : List Nat) : List Nat := (l.reverse.dropWhile (fun c => c == 47)).reverse
theorem rs_app (a b : List Nat) : rs (a ++ b) = if rs b = [] then rs a else a ++ rs b := by
  unfold rs
  rw [List.reverse_append, List.dropWhile_append]
  by_cases h : (b.reverse.dropWhile (fun c => c == 47)) = []
  · simp [h]
  · rw [if_neg (by simpa using h), if_neg (by simpa using h)]; simp
theorem rs_nil : rs [] = [] := rfl
theorem rs_slash : rs [47] = [] := by decide
theorem rs_cons_slash (l : List Nat) : rs (47 :: l) = if rs l = [] then [] else 47 :: rs l := by
  rw [show 47 :: l = [47] ++ l from rfl, rs_app, rs_slash]; rfl
theorem rs_ns {l : List Nat} (h : 47 ∉ l) : rs l = l := by
  unfold rs
  cases e : l.reverse with
  | nil => simpa using e.symm
  | cons c r =>
    have : c ≠ 47 := fun hc => h (by rw [← List.mem_reverse, e, hc]; exact List.mem_cons_self ..)
    rw [List.dropWhile_cons, if_neg (by simpa using this), ← e, List.reverse_reverse]
theorem rs_take (l : List Nat) : l.take (l.length - (l.reverse.takeWhile (fun c => c == 47)).length) = rs l := by
  have e : l = rs l ++ (l.reverse.takeWhile (fun c => c == 47)).reverse := by
    unfold rs
    rw [← List.reverse_append, List.takeWhile_append_dropWhile, List.reverse_reverse]
  have e2 : l.length - (l.reverse.takeWhile (fun c => c == 47)).length = (rs l).length := by
    have := congrArg List.length e
    simp at this ⊢
    omega
  rw [e2]
  conv => lhs; arg 2; rw [e]
  simp
theorem cd_rstrip (x : Str) : cd (Txt.rstripChars x (Str.ofString "/")) = rs (cd x) := by
  have f : (fun c => (Str.ofString "/").cps.contains c) = fun c : Nat => c == 47 := by
    funext c
    show #[47].contains c = _
    simp
    rfl
  unfold Txt.rstripChars Txt.stripBy
  rw [show (Str.ofString "/").cps.contains = fun c : Nat => c == 47 from f]
  unfold stripSame PySem.stripped stripLo stripHi
  simp only [if_true, Bool.false_eq_true, if_false, List.drop_zero]
  rw [← rs_take (cd x), cd_len]
  split
  · rename_i h
    have h' : x.length - (x.cps.toList.reverse.takeWhile (fun c => c == 47)).length = x.length := by simpa using h
    show cd x = _
    rw [show (cd x).reverse = x.cps.toList.reverse from rfl, h', ← cd_len, List.take_length]
  · show (strSub x 0 _).cps.toList = _
    rw [StrLaws.strSub_toList]
    rfl
theorem mul_slash (n : Nat) : cd (Txt.mul (Str.ofString "/") (n : Int)) = List.replicate n 47 := by
  have key : ∀ k (a : Array Nat), ((List.replicate k #[47]).foldl (· ++ ·) a).toList = a.toList ++ List.replicate k 47 := by
    intro k
    induction k with
    | zero => intro a; simp
    | succ k ih => intro a; rw [List.replicate_succ, List.foldl_cons, ih, List.replicate_succ]; simp
  unfold Txt.mul
  split
  · have : n = 0 := by omega
    subst this; rfl
  · split
    · rename_i h
      have : n = 1 := by
        have h2 : (Str.ofString "/").length = 1 := by decide +kernel
        rw [h2] at h
        simp at h
        omega
      subst this
      exact cd_slash
    · show ((List.replicate (n : Int).toNat (Str.ofString "/").cps).foldl (· ++ ·) #[]).toList = _
      rw [show (Str.ofString "/").cps = #[47] from by decide +kernel, key]
      simp
end
section
open PySem.Builtin PySem.Builtin.Str
set_option maxRecDepth 100000
set_option maxHeartbeats 8000000
theorem cd_eq_nil {x : Str} : cd x = [] ↔ x = Str.ofString "" := ⟨fun h => cd_ext (by rw [h, cd_nil]), fun h => by rw [h, cd_nil]⟩
theorem jc_rs : ∀ (i : List Str), ns i → (stripE i = [] ∧ rs (jc (i.map cd)) = []) ∨ (stripE i ≠ [] ∧ rs (jc (i.map cd)) = jc ((stripE i).map cd) ∧ jc ((stripE i).map cd) ≠ [])
  | [], _ => .inl ⟨rfl, rfl⟩
  | [a], h => by
    have ha : 47 ∉ cd a := h a (List.mem_cons_self ..)
    have e : jc ([a].map cd) = cd a := rfl
    rw [e, rs_ns ha]
    by_cases q : a = Str.ofString ""
    · exact .inl ⟨by rw [stripE, if_pos ⟨rfl, q⟩], cd_eq_nil.mpr q⟩
    · have : stripE [a] = [a] := by rw [stripE, if_neg (fun z => q z.2)]; rfl
      rw [this]
      exact .inr ⟨by simp, rfl, fun z => q (cd_eq_nil.mp z)⟩
  | a :: b :: r, h => by
    have ha : 47 ∉ cd a := h a (List.mem_cons_self ..)
    have ih := jc_rs (b :: r) (fun p hp => h p (List.mem_cons_of_mem _ hp))
    have e : jc ((a :: b :: r).map cd) = cd a ++ 47 :: jc ((b :: r).map cd) := rfl
    rw [e, rs_app, rs_cons_slash]
    rcases ih with ⟨i1, i2⟩ | ⟨i1, i2, i3⟩
    · rw [i2, if_pos rfl, if_pos rfl, rs_ns ha]
      by_cases q : a = Str.ofString ""
      · exact .inl ⟨by rw [stripE, if_pos ⟨i1, q⟩], cd_eq_nil.mpr q⟩
      · have : stripE (a :: b :: r) = [a] := by rw [stripE, if_neg (fun z => q z.2), i1]
        rw [this]
        exact .inr ⟨by simp, rfl, fun z => q (cd_eq_nil.mp z)⟩
    · rw [i2, if_neg i3, if_neg (by simp)]
      have : stripE (a :: b :: r) = a :: stripE (b :: r) := by rw [stripE, if_neg (fun z => i1 z.1)]
      rw [this]
      obtain ⟨c, t, ht⟩ := List.exists_cons_of_ne_nil i1
      rw [ht]
      exact .inr ⟨by simp, rfl, by simp [jc]⟩
theorem join_full {ss : List Str} (h : Txt.join (Str.ofString "") ss = Str.ofString "") : stripE ss = [] := by
  have key : ∀ ss : List Str, Str.join (Str.ofString "") ss = Str.ofString "" → stripE ss = [] := by
    intro ss
    induction ss with
    | nil => intro _; rfl
    | cons a r ih =>
      cases r with
      | nil => intro h; rw [stripE, if_pos ⟨rfl, h⟩]
      | cons b r =>
        intro h
        have h1 : cd (a ++ Str.ofString "" ++ Str.join (Str.ofString "") (b :: r)) = [] := cd_eq_nil.mpr h
        rw [cd_app, cd_app, cd_nil] at h1
        simp at h1
        rw [stripE, if_pos ⟨ih (cd_eq_nil.mp h1.2), cd_eq_nil.mp h1.1⟩]
  apply key
  rw [← StrLaws.glued_eq_join]
  exact h
theorem rs_nil_iff {l : List Nat} : rs l = [] ↔ l = List.replicate l.length 47 := by
  constructor
  · intro h
    induction l with
    | nil => rfl
    | cons c l ih =>
      rw [show c :: l = [c] ++ l from rfl, rs_app] at h
      split at h
      · rename_i q
        have hc : c = 47 := by
          rcases Classical.em (c = 47) with hc | hc
          · exact hc
          · rw [rs_ns (by simpa using fun z : 47 = c => hc z.symm)] at h; cases h
        have := ih q
        rw [List.length_cons, List.replicate_succ, ← this, hc]
      · cases h
  · intro h
    rw [h]
    unfold rs
    rw [List.reverse_replicate]
    induction l.length with
    | zero => rfl
    | succ k ih => rw [List.replicate_succ, List.dropWhile_cons, if_pos (by decide)]; exact ih
theorem dir_row (i : List Str) (l : Str) (hns : ns (i ++ [l])) : dirT (rt (i ++ [l])) = rt (aboveS (i ++ [l])) := by
  have hl : 47 ∉ cd l := hns l (by simp)
  have hi : ns i := fun p hp => hns p (by simp [hp])
  have H := head_row i l hl
  unfold aboveS
  rw [List.dropLast_concat]
  generalize hx : headT (rt (i ++ [l])) = x at H
  unfold dirT
  rw [hx]
  by_cases q : i = []
  · subst q
    rw [if_pos rfl] at H
    have hx0 : x.length = 0 := by rw [← cd_len, H]; rfl
    rw [if_neg (by rw [hx0]; simp), if_pos (by decide +kernel)]
    apply cd_ext
    rw [H, List.nil_append, rt_one, cd_nil]
  · rw [if_neg q] at H
    have hne : x.length ≠ 0 := by rw [← cd_len, H]; simp
    have hrs : rs (cd x) = rs (jc (i.map cd)) := by rw [H, rs_app, rs_slash, if_pos rfl, cd_rt]
    have hiff : x = Txt.mul (Str.ofString "/") x.length ↔ rs (cd x) = [] := by
      rw [rs_nil_iff, cd_len]
      constructor
      · intro h; conv => lhs; rw [h]
        exact mul_slash _
      · intro h; exact cd_ext (by rw [mul_slash]; exact h)
    rcases jc_rs i hi with ⟨s1, s2⟩ | ⟨s1, s2, s3⟩
    · rw [if_neg (by rw [Ne, Ne, hiff, hrs]; exact fun z => z.2 s2), if_pos (join_empty s1)]
      apply cd_ext
      rw [H, rt_snoc i _ q, cd_nil]
    · rw [if_pos ⟨hne, by rw [Ne, hiff, hrs, s2]; exact s3⟩, if_neg (fun z => s1 (join_full z))]
      apply cd_ext
      rw [cd_rstrip, hrs, s2, cd_rt]
end
section
set_option maxRecDepth 100000
set_option maxHeartbeats 8000000
set_option linter.unusedVariables false

theorem fresh49 : True := by
  w_top off
  trivial
theorem words_T5_0 : True := by
  w_top off
  k_with_none
  k_with "exec While" => (k_here; (with_reducible show wpAny _ _ (exec (Stmt.While _ _ _ _) _) _ _ _); refine stop_out ?_)
  trivial
theorem getD_at {ss : List Str} {k : Nat} (h : k < ss.length) : ss[k]? = some (ss.getD ((k : Int)).toNat Str.empty) := by
  rw [Int.toNat_natCast, List.getD_eq_getElem?_getD, List.getElem?_eq_getElem h]; rfl
theorem root_ok (w : World) (l : Addr) (us : List Value) (ss : List Str) (hs : StrsAre us ss) (hn : ss.length ≤ 60000) (hne : 0 < ss.length) : RO w 1 163 [.ref l] (fun h => h.IsList l (List.toArray us)) (IsI (rootS ss)) := by
  unfold RO
  k_fill
  intro mean mg mb dp un gd cn cs a ccd cl outer A₀ base h₀ L m s Q E B F X T hk hd hu hpre hret
  refine wpAny_call ?_
  k_dflt walk_at "ro in"
  have hl : s.heap.IsList l (List.toArray us) := hpre
  k_steps
  unfold Stop
  rename Fr _ _ _ _ => F5
  rename News _ _ _ _ => N5
  refine While_inv2 (J := fun n m nx => ∃ (k : Nat) (t : Tok), m (Str.ofString "slashes") = some (.int k t) ∧ m (Str.ofString "row") = some (.ref l) ∧ nx = [] ∧ k + n = ss.length ∧ rootS ss = k + rootS (ss.drop k)) (n₀ := ss.length) F5 N5 ⟨0, _, rfl, rfl, rfl, by omega, by simp⟩ ?_
  rintro n m₁ nx h₁ tk₁ F₁ N₁ ⟨k, t, e1, e2, rfl, e3, e4⟩
  have F₂ := fr_at [(Str.ofString "slashes", .int k t), (Str.ofString "row", .ref l)] F₁ (by simp [e1, e2])
  clear F₁ F5 N5
  k_steps
  · have hlt : (k : Int) < (ss.length : Int) - 1 := by assumption
    have hq : (ss.getD ((k : Int)).toNat Str.empty == Str.ofString "") = true := by assumption
    have hk1 : k + 1 < ss.length := by omega
    exact ⟨_, _, _, _, n - 1, rfl, by assumption, by assumption, by omega, k + 1, _, rfl, rfl, rfl, by omega, by
      rw [e4, rootS_step hk1 (by rw [getD_at (by omega)]; exact congrArg some (eq_of_beq hq))]; omega⟩
  · refine ro_endI hret (by assumption) (by assumption) ?_
    have hlt : (k : Int) < (ss.length : Int) - 1 := by assumption
    have hq : (ss.getD ((k : Int)).toNat Str.empty == Str.ofString "") = false := by assumption
    rw [e4, rootS_stop2 (getD_at (by omega)) (by intro e; rw [e] at hq; simp at hq)]; rfl
  · refine ro_endI hret (by assumption) (by assumption) ?_
    have hlt : ¬ (k : Int) < (ss.length : Int) - 1 := by assumption
    rw [e4, rootS_stop1 (by omega)]; rfl
end
section
set_option maxRecDepth 100000
set_option maxHeartbeats 8000000
set_option linter.unusedVariables false
theorem fresh50 : True := by
  w_top off
  trivial
local macro_rules | `(tactic| kt_len) => `(tactic| exact len_getD (by assumption) _)
local macro_rules | `(tactic| walk_at "cut") => `(tactic| first | exact sl_init (by walk_at "strs") | exact sl_last (by walk_at "strs") | exact sl_upto (by walk_at "strs") (by first | decide | omega) | exact sl_from (by walk_at "strs") (by first | decide | omega))
local macro_rules | `(tactic| walk_at "call ref") => `(tactic| (k_here; k_dflt (first
  | (refine' ro_useI (root_ok _ _ _ _ ?hs ?hn ?he) ?k1 ?k2 ?k3 ?k4 ?k5 ?kK ?kd ?ku ?kp ?_; (case kp => kmk_list); (case hs => walk_at "strs"); (case hn => walk_at "fits"); (case he => walk_at "fits"); (case k1 => k_asm); (case k2 => k_asm); (case k3 => k_asm); (case k4 => k_asm); (case k5 => k_asm); (case kK => first | exact rfl | assumption); (case kd => ktr_room); (case ku => ktr_units); intro t' h' tk' F' N'; (try k_sweep); (try dsimp only); (try k_fold)))))

theorem words_T7_0 : True := by
  w_top off
  k_with_none
  k_with "exec While" => (k_here; (with_reducible show wpAny _ _ (exec (Stmt.While _ _ _ _) _) _ _ _); refine stop_out ?_)
  k_with "strs" => first | with_reducible assumption | exact StrsAre.nil | exact StrsAre.cons _ _ (by walk_at "strs")
  k_with "fits" => ((try rw [strs_len (by walk_at "strs")]); (try simp only [sizeLine_eq, List.length_append, List.length_cons, List.length_drop, List.length_dropLast, List.length_take, List.length_nil, List.length_reverse]); omega)
  k_with "subscriptTail Name Slice ref ref" => (k_here; (with_reducible show wpAny _ _ (subscriptTail _ (PySem.Expr.Slice _ _ none _) (Value.ref _) (Value.ref _)) _ _ _); k_dflt (refine' strs_slice (by k_asm) (by k_asm) (by kmk_list) (by kmk_part) (by kmk_part) (by walk_at "cut") ?_ (by with_unfolding_all rfl) (by kmk_pure) (by walk_at "fits")); intro D₉ ws₉ h₉ F₉ N₉ l1₉ hS₉; (try k_lt l1₉); (try k_sweep))
  k_with "binaryOp Add ref ref" => (k_here; (with_reducible show wpAny _ _ (binaryOp _ (Value.ref _) (Value.ref _)) _ _ _); k_dflt (refine' strs_cat (by k_asm) (by k_asm) (by kmk_list) (by kmk_list) (by walk_at "strs") (by walk_at "strs") ?_ (by walk_at "fits")); intro D₉ ws₉ h₉ F₉ N₉ l1₉ hS₉; (try k_lt l1₉); (try k_sweep))
  k_with "oks" => first | with_reducible assumption | decide +kernel | exact fun z hz => (by assumption : ∀ z ∈ _, PyData.strOk z = true) z (List.mem_of_mem_take hz) | exact fun z hz => (by assumption : ∀ z ∈ _, PyData.strOk z = true) z (List.mem_of_mem_drop hz)
  k_with "weighs" => first | omega | ((try simp only [wt_append, wt_cons, wt_nil]); omega) | (refine Nat.le_trans (wt_init _) ?_; walk_at "weighs") | (refine Nat.le_trans (wt_drop _ _) ?_; walk_at "weighs") | (refine Nat.le_trans (wt_take _ _) ?_; walk_at "weighs")
  k_with "call builtin:str.join" => (k_here; (with_reducible show wpAny _ _ (call (Value.builtin _) [Value.str _ _, Value.ref _]) _ _ _); k_dflt (refine' join_wt (by kmk_list) (by walk_at "strs") (by decide +kernel) (by walk_at "weighs") ?_); intro t₉ tk₉)
  trivial
/-- what _law_joined makes of a row and a part -/
def joinedS (ss ss2 : List Str) : List Str :=
  if ss = [Str.ofString ""] ∨ 0 < rootS ss2 then ss2 else (if ss.getD (ss.length - 1) Str.empty = Str.ofString "" then ss.dropLast else ss) ++ ss2
/-- a new list, or the list at l -/
def IsLO (ss : List Str) (l : Addr) : Heap → Heap → Value → Prop := fun h h' r => ∃ D vs n, r = .ref D ∧ (h.get? D = none ∨ D = l) ∧ h'.get? D = some (listOf (List.toArray vs) n) ∧ StrsAre vs ss
theorem joined_ok (w : World) (l : Addr) (us : List Value) (ss : List Str) (l2 : Addr) (us2 : List Value) (n2 : Nat) (ss2 : List Str) (hs : StrsAre us ss) (hw : wt ss ≤ 60000) (hok : ∀ z ∈ ss, PyData.strOk z = true) (hne : 0 < ss.length)(hs2 : StrsAre us2 ss2) (hw2 : wt ss2 ≤ 60000) (hok2 : ∀ z ∈ ss2, PyData.strOk z = true) (hne2 : 0 < ss2.length) : RO w 20 170 [.ref l, .ref l2] (fun h => h.IsList l (List.toArray us) ∧ h.get? l2 = some (listOf (List.toArray us2) n2)) (IsLO (joinedS ss ss2) l2) := by
  unfold RO
  k_fill
  intro mean mg mb dp un gd cn cs a ccd cl outer A₀ base h₀ L m s Q E B F X T hk hd hu hpre hret
  refine wpAny_call ?_
  k_dflt walk_at "ro in"
  have hl : s.heap.IsList l (List.toArray us) := hpre.1
  have hn : ss.length ≤ 60000 := Nat.le_trans (wt_len ss) hw
  have hb : ∀ z ∈ ss, z.length ≤ 60000 := fun z hz => by have := wt_mem hz; omega
  have hl2 : s.heap.IsList l2 (List.toArray us2) := ⟨_, hpre.2, rfl, _, rfl⟩
  have hn2 : ss2.length ≤ 60000 := Nat.le_trans (wt_len ss2) hw2
  have hb2 : ∀ z ∈ ss2, z.length ≤ 60000 := fun z hz => by have := wt_mem hz; omega
  k_steps
  · rename Fr (Shared.heap s) _ _ _ => hF
    refine hret _ _ _ (by assumption) hF.keep ⟨l2, us2, n2, rfl, .inr rfl, hF.keep _ _ hpre.2, ?_⟩
    have hq : ss = [Str.ofString ""] := by assumption
    rw [joinedS, if_pos (.inl hq)]
    assumption
  · rename Fr (Shared.heap s) _ _ _ => hF
    refine hret _ _ _ (by assumption) hF.keep ⟨l2, us2, n2, rfl, .inr rfl, hF.keep _ _ hpre.2, ?_⟩
    have hq : (rootS ss2 : Int) > 0 := by assumption
    rw [joinedS, if_pos (.inr (by omega))]
    assumption
  all_goals (
    rename Fr (Shared.heap s) _ _ _ => hF
    rename News (Shared.heap s) _ _ _ => hN
    have hq1 : ¬ ss = [Str.ofString ""] := by assumption
    have hq2 : ¬ (rootS ss2 : Int) > 0 := by assumption
    refine hret _ _ _ (by assumption) hF.keep ⟨_, _, _, rfl, .inl (hN _ (by k_mem)).2.2, (hN _ (by k_mem)).1, ?_⟩
    rw [joinedS, if_neg (fun q => q.elim hq1 (fun q => hq2 (by omega)))])
  · have hq : (ss.getD ((-1 + (ss.length : Int))).toNat Str.empty == Str.ofString "") = true := by assumption
    rw [show ∀ n : Nat, (-1 + (n : Int)).toNat = n - 1 from fun n => by omega] at hq
    rw [if_pos (eq_of_beq hq)]
    assumption
  · have hq : (ss.getD ((-1 + (ss.length : Int))).toNat Str.empty == Str.ofString "") = false := by assumption
    rw [show ∀ n : Nat, (-1 + (n : Int)).toNat = n - 1 from fun n => by omega] at hq
    rw [if_neg (by intro e; rw [e] at hq; simp at hq)]
    assumption
end
section
open PySem.Builtin PySem.Builtin.Str
set_option maxRecDepth 100000
set_option maxHeartbeats 8000000
theorem starts_row (a : Str) (r : List Str) (h : ns (a :: r)) : Txt.startswith (rt (a :: r)) (Str.ofString "/") = true ↔ 0 < rootS (a :: r) := by
  have ha : 47 ∉ cd a := h a (List.mem_cons_self ..)
  rw [cd_startswith, cd_rt]
  cases r with
  | nil =>
    show ((cd a).take 1 == [47]) = true ↔ 0 < 0
    constructor
    · intro q
      have q' : (cd a).take 1 = [47] := by simpa using q
      exact absurd (List.mem_of_mem_take (by rw [q']; exact List.mem_cons_self ..)) ha
    · intro q; exact absurd q (Nat.lt_irrefl _)
  | cons b r =>
    show ((cd a ++ 47 :: jc ((b :: r).map cd)).take 1 == [47]) = true ↔ 0 < (if a = Str.ofString "" then rootS (b :: r) + 1 else 0)
    by_cases q : a = Str.ofString ""
    · rw [if_pos q, q, cd_nil]; simp
    · rw [if_neg q]
      have q2 : cd a ≠ [] := fun z => q (cd_eq_nil.mp z)
      obtain ⟨c, t, e⟩ := List.exists_cons_of_ne_nil q2
      rw [e]
      have hc : c ≠ 47 := fun z => ha (by rw [e, z]; exact List.mem_cons_self ..)
      simp [hc]
theorem empty_row (i : List Str) (l : Str) : (rt (i ++ [l])).length = 0 ↔ i ++ [l] = [Str.ofString ""] := by
  rw [← cd_len]
  by_cases q : i = []
  · subst q
    rw [List.nil_append, rt_one]
    constructor
    · intro h; rw [cd_eq_nil.mp (List.length_eq_zero_iff.mp h)]
    · intro h; cases h; rw [cd_nil]; rfl
  · rw [rt_snoc i l q]
    constructor
    · intro h; simp at h
    · intro h
      have := congrArg List.length h
      simp at this
      exact absurd this q
theorem join_row (i : List Str) (l a : Str) (r : List Str) (hns : ns (i ++ [l])) (hp : ns (a :: r)) : joinT (rt (i ++ [l])) (rt (a :: r)) = rt (joinedS (i ++ [l]) (a :: r)) := by
  have hl : 47 ∉ cd l := hns l (by simp)
  unfold joinT joinedS
  by_cases c1 : i ++ [l] = [Str.ofString ""] ∨ 0 < rootS (a :: r)
  · rw [if_pos c1, if_pos]
    rcases c1 with c1 | c1
    · exact .inr ((empty_row i l).mpr c1)
    · exact .inl ((starts_row a r hp).mpr c1)
  · rw [if_neg c1, if_neg (by rw [starts_row a r hp, empty_row]; exact fun z => c1 z.symm)]
    have hlast : (i ++ [l]).getD ((i ++ [l]).length - 1) Str.empty = l := by simp
    rw [hlast, List.dropLast_concat]
    by_cases q : l = Str.ofString ""
    · rw [if_pos q]
      have hi : i ≠ [] := fun z => c1 (.inl (by rw [z, q]; rfl))
      have e : cd (rt (i ++ [l])) = cd (rt i) ++ [47] := by rw [rt_snoc i l hi, q, cd_nil]
      rw [if_pos (by rw [cd_endswith, e]; simp)]
      apply cd_ext
      rw [cd_app, e, cd_rt, cd_rt, cd_rt, List.map_append, jc_app _ _ (by simpa using hi) (by simp)]
      simp
    · rw [if_neg q]
      have q2 : cd l ≠ [] := fun z => q (cd_eq_nil.mp z)
      have e : ∃ t, cd (rt (i ++ [l])) = t ++ cd l := by
        by_cases hi : i = []
        · subst hi; exact ⟨[], by rw [List.nil_append, rt_one]; rfl⟩
        · exact ⟨cd (rt i) ++ [47], by rw [rt_snoc i l hi]; simp⟩
      obtain ⟨t, e⟩ := e
      rw [if_neg]
      · apply cd_ext
        rw [cd_app, cd_app, cd_slash, cd_rt, cd_rt, cd_rt]
        have hne : i ++ [l] ≠ [] := by simp
        generalize i ++ [l] = row at hne
        rw [List.map_append, jc_app _ _ (by simpa using hne) (by simp)]
        rfl
      · rw [cd_endswith, e]
        intro z
        have z' : (t ++ cd l).drop ((t ++ cd l).length - 1) = [47] := by simpa using z
        have hpos : 0 < (cd l).length := List.length_pos_iff.mpr q2
        rw [List.drop_append, List.drop_of_length_le (by simp; omega), List.nil_append] at z'
        exact hl (List.mem_of_mem_drop (by rw [z']; exact List.mem_cons_self ..))
end
section
set_option maxRecDepth 100000
set_option maxHeartbeats 8000000
set_option linter.unusedVariables false
theorem fresh52 : True := by
  w_top off
  trivial
local macro_rules | `(tactic| kt_len) => `(tactic| exact len_getD (by assumption) _)
local macro_rules | `(tactic| walk_at "cut") => `(tactic| first | exact sl_init (by walk_at "strs") | exact sl_last (by walk_at "strs") | exact sl_upto (by walk_at "strs") (by first | decide | omega) | exact sl_from (by walk_at "strs") (by first | decide | omega))

theorem words_T4_0 : True := by
  w_top off
  k_with_none
  k_with "exec While" => (k_here; (with_reducible show wpAny _ _ (exec (Stmt.While _ _ _ _) _) _ _ _); refine stop_out ?_)
  k_with "strs" => first | with_reducible assumption | exact StrsAre.nil | exact StrsAre.cons _ _ (by walk_at "strs")
  k_with "fits" => ((try rw [strs_len (by walk_at "strs")]); (try simp only [sizeLine_eq, List.length_append, List.length_cons, List.length_drop, List.length_dropLast, List.length_take, List.length_nil, List.length_reverse]); omega)
  k_with "subscriptTail Name Slice ref ref" => (k_here; (with_reducible show wpAny _ _ (subscriptTail _ (PySem.Expr.Slice _ _ none _) (Value.ref _) (Value.ref _)) _ _ _); k_dflt (refine' strs_slice (by k_asm) (by k_asm) (by kmk_list) (by kmk_part) (by kmk_part) (by walk_at "cut") ?_ (by with_unfolding_all rfl) (by kmk_pure) (by walk_at "fits")); intro D₉ ws₉ h₉ F₉ N₉ l1₉ hS₉; (try k_lt l1₉); (try k_sweep))
  k_with "binaryOp Add ref ref" => (k_here; (with_reducible show wpAny _ _ (binaryOp _ (Value.ref _) (Value.ref _)) _ _ _); k_dflt (refine' strs_cat (by k_asm) (by k_asm) (by kmk_list) (by kmk_list) (by walk_at "strs") (by walk_at "strs") ?_ (by walk_at "fits")); intro D₉ ws₉ h₉ F₉ N₉ l1₉ hS₉; (try k_lt l1₉); (try k_sweep))
  trivial
/-- what _law_refused makes of a row -/
def refusedS (ss : List Str) (y : Str) : List Str :=
  let r := [Str.ofString "<" ++ ss.getD 0 Str.empty] ++ ss.drop 1
  r.dropLast ++ [r.getD (r.length - 1) Str.empty ++ Str.ofString " " ++ y ++ Str.ofString "() failed>"]
theorem refused_ok (w : World) (l : Addr) (us : List Value) (ss : List Str) (y : Str) (u : Tok) (hs : StrsAre us ss) (hy : y.length ≤ 60000) (hn : ss.length ≤ 60000) (hb : ∀ z ∈ ss, z.length ≤ 60000) (hne : 0 < ss.length) : RO w 1 196 [.ref l, .str y u] (fun h => h.IsList l (List.toArray us)) (IsL (refusedS ss y)) := by
  unfold RO
  k_fill
  intro mean mg mb dp un gd cn cs a ccd cl outer A₀ base h₀ L m s Q E B F X T hk hd hu hpre hret
  refine wpAny_call ?_
  k_dflt walk_at "ro in"
  have hl : s.heap.IsList l (List.toArray us) := hpre
  have hb2 : ∀ z ∈ ([Str.ofString "<" ++ ss.getD (Int.toNat 0) Str.empty] ++ List.drop (Int.toNat 1) ss), z.length ≤ 60001 := by
    intro z hz
    rcases List.mem_append.mp hz with h | h
    · rw [List.mem_singleton.mp h, Str.length_append]
      have := len_getD hb (Int.toNat 0)
      have e : (Str.ofString "<").length = 1 := by decide +kernel
      omega
    · have := hb z (List.mem_of_mem_drop h)
      omega
  k_steps
  refine ro_endL2 hret (by assumption) (by assumption) (by assumption) (by k_mem) (by walk_at "strs") ?_
  rw [show ∀ n : Nat, (-1 + (n : Int)).toNat = n - 1 from fun n => by omega]
  rfl
end
section
open PySem.Builtin PySem.Builtin.Str
set_option maxRecDepth 100000
set_option maxHeartbeats 8000000
theorem rt_ahead (p a : Str) (t : List Str) : cd (rt ((p ++ a) :: t)) = cd p ++ cd (rt (a :: t)) := by
  rw [cd_rt, cd_rt]
  cases t with
  | nil => exact cd_app p a
  | cons b r =>
    show cd (p ++ a) ++ 47 :: jc ((b :: r).map cd) = cd p ++ (cd a ++ 47 :: jc ((b :: r).map cd))
    rw [cd_app]; simp
theorem rt_behind (i : List Str) (l z : Str) : cd (rt (i ++ [l ++ z])) = cd (rt (i ++ [l])) ++ cd z := by
  by_cases h : i = []
  · subst h; rw [List.nil_append, List.nil_append, rt_one, rt_one, cd_app]
  · rw [rt_snoc i _ h, rt_snoc i _ h, cd_app]; simp
theorem refused_row (a : Str) (t : List Str) (y : Str) : rt (refusedS (a :: t) y) = Str.ofString "<" ++ rt (a :: t) ++ Str.ofString " " ++ y ++ Str.ofString "() failed>" := by
  apply cd_ext
  unfold refusedS
  simp only [List.getD_cons_zero, List.drop_succ_cons, List.drop_zero, List.singleton_append]
  rw [cd_app, cd_app, cd_app, cd_app, ← rt_ahead]
  obtain ⟨i, l, e⟩ : ∃ i l, (Str.ofString "<" ++ a) :: t = i ++ [l] := by
    rcases List.eq_nil_or_concat ((Str.ofString "<" ++ a) :: t) with q | ⟨i, l, q⟩
    · cases q
    · exact ⟨i, l, by rw [q, List.concat_eq_append]⟩
  rw [e, List.dropLast_concat]
  have hl : (i ++ [l]).getD ((i ++ [l]).length - 1) Str.empty = l := by simp
  have ha : l ++ Str.ofString " " ++ y ++ Str.ofString "() failed>" = l ++ (Str.ofString " " ++ y ++ Str.ofString "() failed>") := cd_ext (by simp only [cd_app, List.append_assoc])
  rw [hl, ha, rt_behind, cd_app, cd_app]
  simp
end
section
open PySem.Builtin PySem.Builtin.Str
set_option maxRecDepth 100000
set_option maxHeartbeats 8000000
theorem free_cut : ∀ {a b c d : List Nat}, 47 ∉ a → 47 ∉ c → a ++ 47 :: b = c ++ 47 :: d → a = c ∧ b = d
  | [], _, [], _, _, _, h => ⟨rfl, by simpa using h⟩
  | [], _, y :: c, _, _, hc, h => by
    simp at h
    exact absurd (by rw [← h.1]; exact List.mem_cons_self ..) hc
  | x :: a, _, [], _, ha, _, h => by
    simp at h
    exact absurd (by rw [h.1]; exact List.mem_cons_self ..) ha
  | x :: a, b, y :: c, d, ha, hc, h => by
    simp only [List.cons_append, List.cons.injEq] at h
    obtain ⟨e1, e2⟩ := free_cut (fun z => ha (List.mem_cons_of_mem _ z)) (fun z => hc (List.mem_cons_of_mem _ z)) h.2
    exact ⟨by rw [h.1, e1], e2⟩
theorem jc_inj : ∀ {a b : List (List Nat)}, a ≠ [] → b ≠ [] → (∀ p ∈ a, 47 ∉ p) → (∀ p ∈ b, 47 ∉ p) → jc a = jc b → a = b
  | [], _, h, _, _, _, _ => absurd rfl h
  | _, [], _, h, _, _, _ => absurd rfl h
  | [x], [y], _, _, _, _, h => by rw [show x = y from h]
  | [x], y :: z :: r, _, _, hx, _, h => by
    have h' : x = y ++ 47 :: jc (z :: r) := h
    exact absurd (by rw [h']; simp) (hx x (List.mem_cons_self ..))
  | y :: z :: r, [x], _, _, _, hx, h => by
    have h' : y ++ 47 :: jc (z :: r) = x := h
    exact absurd (by rw [← h']; simp) (hx x (List.mem_cons_self ..))
  | x :: x2 :: a, y :: y2 :: b, _, _, hx, hy, h => by
    have h' : x ++ 47 :: jc (x2 :: a) = y ++ 47 :: jc (y2 :: b) := h
    obtain ⟨e1, e2⟩ := free_cut (hx x (List.mem_cons_self ..)) (hy y (List.mem_cons_self ..)) h'
    have := jc_inj (a := x2 :: a) (b := y2 :: b) (by simp) (by simp) (fun p hp => hx p (List.mem_cons_of_mem _ hp)) (fun p hp => hy p (List.mem_cons_of_mem _ hp)) e2
    rw [e1, this]
theorem map_cd_inj : ∀ {a b : List Str}, a.map cd = b.map cd → a = b
  | [], [], _ => rfl
  | [], _ :: _, h => by simp at h
  | _ :: _, [], h => by simp at h
  | x :: a, y :: b, h => by
    simp only [List.map_cons, List.cons.injEq] at h
    rw [cd_ext h.1, map_cd_inj h.2]
theorem join_is_rt (ss : List Str) : Str.join (Str.ofString "/") ss = rt ss := (StrLaws.glued_eq_join _ ss).symm
theorem split_ne_nil (x : Str) : Txt.split x (Str.ofString "/") ≠ [] := by
  intro h
  have e := split_wt x
  rw [h] at e
  simp [wt] at e
theorem split_rt (ss : List Str) (hne : ss ≠ []) (h : ns ss) : Txt.split (rt ss) (Str.ofString "/") = ss := by
  have e : rt (Txt.split (rt ss) (Str.ofString "/")) = rt ss := by rw [← join_is_rt, StrLaws.join_split]
  have e2 := congrArg cd e
  rw [cd_rt, cd_rt] at e2
  have e3 := jc_inj (by simpa using split_ne_nil _) (by simpa using hne) ?_ ?_ e2
  · exact map_cd_inj e3
  · intro p hp
    obtain ⟨q, hq, rfl⟩ := List.mem_map.mp hp
    exact StrLaws.split_free (rt ss) 47 q (by rw [show (⟨#[47]⟩ : Str) = Str.ofString "/" from by decide +kernel]; exact hq)
  · intro p hp
    obtain ⟨q, hq, rfl⟩ := List.mem_map.mp hp
    exact h q hq
end
section
open PySem.Builtin PySem.Builtin.Str
set_option maxRecDepth 100000
set_option maxHeartbeats 8000000
theorem strEnd_cons (p : Str) (r : List Str) : strEnd (p :: r) = strStep (strEnd r) p := by
  unfold strEnd
  rw [List.reverse_cons, List.foldl_append]
  rfl
theorem strEnd_nil : strEnd [] = ([], 0) := rfl
/-- one step of normpath over (dots ahead, names) -/
def twoStep (rooted : Bool) (st : Nat × List Str) (p : Str) : Nat × List Str :=
  if p = Str.ofString "" ∨ p = Str.ofString "." then st
  else if p = Str.ofString ".." then (if st.2 = [] then (if rooted then st else (st.1 + 1, [])) else (st.1, st.2.dropLast))
  else (st.1, st.2 ++ [p])
theorem two_end (b : Bool) : ∀ (ss : List Str) (d : Nat) (N : List Str),
    ss.foldl (twoStep b) (d, N) = ((if b then d else d + ((strEnd ss).2 - N.length)), N.take (N.length - (strEnd ss).2) ++ (strEnd ss).1)
  | [], d, N => by
    rw [strEnd_nil]
    cases b <;> simp
  | p :: r, d, N => by
    rw [List.foldl_cons, strEnd_cons]
    have ne : Str.ofString ".." ≠ Str.ofString "" := by decide +kernel
    have ne2 : Str.ofString ".." ≠ Str.ofString "." := by decide +kernel
    by_cases h1 : p = Str.ofString ".."
    · have e1 : strStep (strEnd r) p = ((strEnd r).1, (strEnd r).2 + 1) := by unfold strStep; rw [if_pos h1]
      rw [e1]
      have e2 : twoStep b (d, N) p = (if N = [] then (if b then (d, N) else (d + 1, [])) else (d, N.dropLast)) := by
        unfold twoStep
        rw [if_neg (by rw [h1]; exact fun z => z.elim ne ne2), if_pos h1]
      rw [e2]
      by_cases hN : N = []
      · subst hN
        rw [if_pos rfl]
        cases b
        · simp only [Bool.false_eq_true, if_false]
          rw [two_end false r]
          simp
          omega
        · simp only [if_true]
          rw [two_end true r]
          simp
      · rw [if_neg hN, two_end b r]
        have hl : 0 < N.length := List.length_pos_iff.mpr hN
        have h3 : N.dropLast.take (N.dropLast.length - (strEnd r).2) = N.take (N.length - ((strEnd r).2 + 1)) := by
          rw [List.dropLast_eq_take, List.take_take, List.length_take]
          congr 1
          omega
        rw [h3, List.length_dropLast]
        congr 1
        cases b
        · simp only [Bool.false_eq_true, if_false]; omega
        · rfl
    · by_cases h2 : p = Str.ofString "" ∨ p = Str.ofString "."
      · have e1 : strStep (strEnd r) p = strEnd r := by unfold strStep; rw [if_neg h1, if_pos h2]
        have e2 : twoStep b (d, N) p = (d, N) := by unfold twoStep; rw [if_pos h2]
        rw [e1, e2, two_end b r]
      · have e2 : twoStep b (d, N) p = (d, N ++ [p]) := by unfold twoStep; rw [if_neg h2, if_neg h1]
        rw [e2, two_end b r]
        unfold strStep
        rw [if_neg h1, if_neg h2]
        by_cases h3 : 0 < (strEnd r).2
        · rw [if_pos h3]
          have h4 : (N ++ [p]).take ((N ++ [p]).length - (strEnd r).2) = N.take (N.length - ((strEnd r).2 - 1)) := by
            rw [List.take_append, List.length_append, List.length_singleton, show N.length + 1 - (strEnd r).2 - N.length = 0 by omega, List.take_zero, List.append_nil]
            congr 1
            omega
          rw [h4]
          congr 1
          cases b
          · simp; omega
          · rfl
        · rw [if_neg h3]
          have h0 : (strEnd r).2 = 0 := by omega
          rw [h0]
          have h5 : (N ++ [p]).take ((N ++ [p]).length - 0) = N ++ [p] := by rw [Nat.sub_zero, List.take_length]
          rw [h5]
          cases b <;> simp
end
local macro_rules | `(tactic| walk_at "pyIter ref") => `(tactic| ((with_reducible show wpAny _ _ (pyIter (Value.ref _)) (fun it s₂ => LoopAtV _ _ _ _ _ _ _ _ _ it s₂) _ _); refine stop_out ?_))
section
set_option maxRecDepth 100000
set_option maxHeartbeats 8000000
set_option linter.unusedVariables false

local macro_rules | `(tactic| walk_at "pad 0") => `(tactic| fail "pad")
theorem fresh56 : True := by
  w_top off
  trivial
theorem words_T11_0 : True := by
  w_top off
  k_with_none
  k_with "steps" => repeat' ((fail_if_success (with_reducible show VPost _ _ _ _ _ _ _ _ _)); (fail_if_success (with_reducible show WhileStep2 _ _ _ _ _ _ _ _)); (fail_if_success (with_reducible show Stop _)); first | (k_unfold; (try dsimp only)) | walk1 | (dsimp only; walk1) | (leave1; (try dsimp only)) | fail "no step")
  k_with "call builtin:issubclass" => (k_here; k_dflt (refine' call_isn md_str (by exact (News.get (by k_asm) (by k_mem))) sub_str ?_; k_whole); intro tk₉; (try dsimp only [List.any]))
  k_with "exec While" => (k_here; (with_reducible show wpAny _ _ (exec (Stmt.While _ _ _ _) _) _ _ _); refine stop_out ?_)
  k_with "exec While BoolOp" => (k_here; (with_reducible show wpAny _ _ (exec (Stmt.While _ _ _ _) _) _ _ _); refine stop_out ?_)
  k_with "exec While BoolOp cons nil" => (k_here; (with_reducible show wpAny _ _ (exec (Stmt.While _ _ _ _) _) _ _ _); refine stop_out ?_)
  k_with "exec While Compare cons nil" => (k_here; (with_reducible show wpAny _ _ (exec (Stmt.While _ _ _ _) _) _ _ _); refine stop_out ?_)
  k_with "exec For" => (k_here; (with_reducible show wpAny _ _ (exec (Stmt.For (PySem.Expr.Name _ _) _ _ _ _) _) _ _ _); (rename Fr _ _ _ _ => lF₉); (with_unfolding_all refine' For_invVF lF₉ (by exact rfl) (by exact rfl) ?_; k_whole))
  k_with "len" => first | with_reducible assumption | (with_reducible refine' len_getD (by assumption) _) | (with_reducible refine' len_join (by assumption)) | (with_reducible refine' KT.len_app (by walk_at "len") (by walk_at "len")) | ((with_reducible show (PySem.Str.ofString _).length ≤ _); exact Nat.le_refl _)
  k_with "binaryOp Add str str" => (k_here; (with_reducible show wpAny _ _ (binaryOp Operator.Add (Value.str _ _) (Value.str _ _)) _ _ _); (refine' KXadd.add (by walk_at "len") (by walk_at "len") (by exact Nat.le_of_ble_eq_true rfl) ?_); intro t₉ tk₉ hl₉)
  k_with "truthy str" => (k_here; (with_reducible show wpAny _ _ (PySem.truthy (Value.str _ _)) _ _ _); (refine' truthT (by walk_at "len") (by exact Nat.le_of_ble_eq_true rfl) ?_); intro tk₉)
  k_with "strs" => first | with_reducible assumption | exact StrsAre.nil | exact StrsAre.cons _ _ (by walk_at "strs")
  k_with "fits" => ((try rw [strs_len (by walk_at "strs")]); (try simp only [sizeLine_eq, List.length_append, List.length_cons, List.length_drop, List.length_dropLast, List.length_take, List.length_nil, List.length_reverse, List.length_replicate, Int.toNat_natCast]); omega)
  k_with "subscriptTail Name Slice ref ref" => (k_here; (with_reducible show wpAny _ _ (subscriptTail _ (PySem.Expr.Slice _ _ none _) (Value.ref _) (Value.ref _)) _ _ _); k_dflt (refine' strs_slice (by k_asm) (by k_asm) (by kmk_list) (by kmk_part) (by kmk_part) (by walk_at "cut") ?_ (by with_unfolding_all rfl) (by kmk_pure) (by walk_at "fits")); intro D₉ ws₉ h₉ F₉ N₉ l1₉ hS₉; (try k_lt l1₉); (try k_sweep))
  k_with "binaryOp Add ref ref" => (k_here; (with_reducible show wpAny _ _ (binaryOp _ (Value.ref _) (Value.ref _)) _ _ _); k_dflt (refine' strs_cat (by k_asm) (by k_asm) (by kmk_list) (by kmk_list) (by walk_at "strs") (by walk_at "strs") ?_ (by walk_at "fits")); intro D₉ ws₉ h₉ F₉ N₉ l1₉ hS₉; (try k_lt l1₉); (try k_sweep))
  k_with "oks" => first | with_reducible assumption | decide +kernel | exact fun z hz => (by assumption : ∀ z ∈ _, PyData.strOk z = true) z (List.mem_of_mem_take hz) | exact fun z hz => (by assumption : ∀ z ∈ _, PyData.strOk z = true) z (List.mem_of_mem_drop hz)
  k_with "weighs" => first | omega | ((try simp only [wt_append, wt_cons, wt_nil]); omega) | (refine Nat.le_trans (wt_init _) ?_; walk_at "weighs") | (refine Nat.le_trans (wt_drop _ _) ?_; walk_at "weighs") | (refine Nat.le_trans (wt_take _ _) ?_; walk_at "weighs")
  k_with "call builtin:str.join" => (k_here; (with_reducible show wpAny _ _ (call (Value.builtin _) [Value.str _ _, Value.ref _]) _ _ _); k_dflt (refine' join_wt (by kmk_list) (by walk_at "strs") (by decide +kernel) (by walk_at "weighs") ?_); intro t₉ tk₉)
  k_with "subscriptTail Name Slice ref ref" => (k_here; (with_reducible show wpAny _ _ (subscriptTail _ (PySem.Expr.Slice none none (some _) _) (Value.ref _) (Value.ref _)) _ _ _); k_dflt (refine' strs_back (by k_asm) (by k_asm) (by kmk_list) (by kmk_part) (by walk_at "strs") ?_ (by with_unfolding_all rfl) (by kmk_pure) (by walk_at "fits")); intro D₉ ws₉ h₉ F₉ N₉ l1₉ hS₉; (try k_lt l1₉); (try k_sweep))
  k_with "binaryOp Mult ref int" => (k_here; (with_reducible show wpAny _ _ (binaryOp Operator.Mult (Value.ref _) (Value.int _ _)) _ _ _); k_dflt (refine' strs_rep (by k_asm) (by k_asm) (by k_mem) (by first | omega | decide) (by first | omega | decide) ?_); intro D₉ ws₉ h₉ F₉ N₉ l1₉ hS₉; (try k_lt l1₉); (try k_sweep))
  k_with "truthy ref" => (k_here; (with_reducible show wpAny _ _ (truthy (Value.ref _)) _ _ _); k_dflt (refine' strs_truth (by kmk_list) (by walk_at "strs") (by walk_at "fits") ?_); intro tk₉)
  k_with "subscriptTail Subscript Name Constant Slice ref ref" => (k_here; (with_reducible show wpAny _ _ (subscriptTail _ (PySem.Expr.Slice _ _ none _) (Value.ref _) (Value.ref _)) _ _ _); k_dflt (refine' strs_slice (by k_asm) (by k_asm) (by kmk_list) (by kmk_part) (by kmk_part) (by walk_at "cut") ?_ (by with_unfolding_all rfl) (by kmk_pure) (by walk_at "fits")); intro D₉ ws₉ h₉ F₉ N₉ l1₉ hS₉; (try k_lt l1₉); (try k_sweep))
  k_with "subscriptTail Subscript Name Constant Slice ref ref" => (k_here; (with_reducible show wpAny _ _ (subscriptTail _ (PySem.Expr.Slice none none (some _) _) (Value.ref _) (Value.ref _)) _ _ _); k_dflt (refine' strs_back (by k_asm) (by k_asm) (by kmk_list) (by kmk_part) (by walk_at "strs") ?_ (by with_unfolding_all rfl) (by kmk_pure) (by walk_at "fits")); intro D₉ ws₉ h₉ F₉ N₉ l1₉ hS₉; (try k_lt l1₉); (try k_sweep))
  k_with "call builtin:str.split" => (k_here; (with_reducible show wpAny _ _ (call (Value.builtin "str.split") [Value.str _ _, Value.str _ _]) _ _ _); k_dflt (refine' strs_split (by k_asm) (by k_asm) (by decide +kernel) ?_ (by (rw [sizeLine_eq]; omega))); intro D₉ ws₉ h₉ k₉ F₉ N₉ l1₉ hS₉; (try k_lt l1₉); (try k_sweep))
  k_with "call builtin:list.append" => (k_here; (with_reducible show wpAny _ _ (call (Value.builtin "list.append") [Value.ref _, Value.str _ _]) _ _ _); k_dflt (refine' strs_append2 (by k_asm) (by k_asm) (by k_upd) (by walk_at "strs") (by walk_at "fits") ?_); intro h₉ F₉ N₉ hS₉; (try k_sweep))
  k_with "call builtin:list.pop" => (k_here; (with_reducible show wpAny _ _ (call (Value.builtin "list.pop") [Value.ref _]) _ _ _); k_dflt (refine' strs_pop2 (by k_asm) (by k_asm) (by k_upd) (by walk_at "strs") (by first | assumption | omega | (apply List.length_pos_iff.mpr; assumption)) (by walk_at "fits") ?_); intro h₉ t₉ F₉ N₉ hS₉; (try k_sweep))
  k_with "subscriptTail Name UnaryOp ref int" => (k_here; (with_reducible show wpAny _ _ (subscriptTail _ _ (Value.ref _) (Value.int _ _)) _ _ _); k_dflt (refine' strs_item_last (by kmk_list) (by walk_at "strs") (by walk_at "pos") ?_); intro t₉)
  k_with "pos" => first | assumption | ((try simp only [List.length_append, List.length_cons, List.length_drop, List.length_nil]); omega)
  k_with "subscriptTail Name Constant ref int" => (k_here; (with_reducible show wpAny _ _ (subscriptTail _ _ (Value.ref _) (Value.int _ _)) _ _ _); k_dflt (refine' lit_item (vs := [_, _]) (by exact News.isList (by k_asm) (by k_mem)) (by decide) (by decide) (by rfl) ?_; k_whole))
  k_with "subscriptTail Name Constant ref int" => (k_here; (with_reducible show wpAny _ _ (subscriptTail _ _ (Value.ref _) (Value.int _ _)) _ _ _); k_dflt (refine' strs_item (by kmk_list) (by walk_at "strs") (by decide) (by decide) (by omega) ?_); intro t₉)
  k_with "subscriptTail Subscript Name Constant Constant ref int" => walk_at "subscriptTail Name Constant ref int"
  k_with "call builtin:len" => (k_here; (with_reducible show wpAny _ _ (call (Value.builtin "len") [Value.ref _]) _ _ _); k_dflt (refine' strs_lenR (by kmk_list) (by walk_at "strs") (by walk_at "fits") ?_); intro t₉ tk₉)
  k_with "call builtin:len cons nil [ref ]" => walk_at "call builtin:len"
  k_with "truthy ref" => (k_here; (with_reducible show wpAny _ _ (truthy (Value.ref _)) _ _ _); k_dflt (refine' strs_truthL (by kmk_list) (by walk_at "strs") (by walk_at "fits") ?_); intro tk₉)
  k_with "call ref" => (k_here; k_dflt (first
  | (refine' ro_use3 (by apply_assumption) (by k_asm) (by k_asm) (by k_asm) (by k_asm) (by k_asm) (by first | exact rfl | assumption) (by ktr_room) (by ktr_units) (by exact trivial) ?_; intro D₉ t1₉ t2₉ t3₉ k₉ h₉ tk₉ F₉ N₉ ne₉; (try k_sweep); (try dsimp only); (try k_fold))
  | (refine' ro_useT (sep_ok _ _ _) (by k_asm) (by k_asm) (by k_asm) (by k_asm) (by k_asm) (by first | exact rfl | assumption) (by ktr_room) (by ktr_units) (by exact trivial) ?_; intro t₉ h₉ tk₉ F₉ N₉; (try k_sweep); (try dsimp only); (try k_fold))
  | (refine' ro_useT (fspath_ok _ _ _) (by k_asm) (by k_asm) (by k_asm) (by k_asm) (by k_asm) (by first | exact rfl | assumption) (by ktr_room) (by ktr_units) (by exact trivial) ?_; intro t₉ h₉ tk₉ F₉ N₉; (try k_sweep); (try dsimp only); (try k_fold))))
  trivial
def normOf (x r tl : Str) : Str :=
  if x.length = 0 then Str.ofString "."
  else if (r ++ Txt.join (Str.ofString "/") ((Txt.split tl (Str.ofString "/")).foldl (normStep r) [])).length = 0 then Str.ofString "." else r ++ Txt.join (Str.ofString "/") ((Txt.split tl (Str.ofString "/")).foldl (normStep r) [])
theorem norm_aux (w : World) (x r tl : Str) (t : Tok) (hx : x.length ≤ 60000) (hrl : r.length ≤ 60001) (htl : tl.length ≤ 60000) (C3 : ∀ t, RO w 3 130 [.str x t] NoPre (IsT3 (Str.ofString "") r tl)) : RO w 5 151 [.str x t] NoPre (IsT (normOf x r tl)) := by
  unfold RO
  k_fill
  intro mean mg mb dp un gd cn cs a ccd cl outer A₀ base h₀ L m s Q E B F X T hk hd hu hpre hret
  refine wpAny_call ?_
  k_dflt walk_at "ro in"
  have hsw : wt (Txt.split tl (Str.ofString "/")) ≤ 60001 := by rw [split_wt]; omega
  have hnT : ¬ x.length = 0 → normOf x r tl = if (r ++ Txt.join (Str.ofString "/") ((Txt.split tl (Str.ofString "/")).foldl (normStep r) [])).length = 0 then Str.ofString "." else r ++ Txt.join (Str.ofString "/") ((Txt.split tl (Str.ofString "/")).foldl (normStep r) []) := fun h => by rw [normOf, if_neg h]
  generalize hsp : Txt.split tl (Str.ofString "/") = sp at hsw hnT
  walk_at "steps"
  · unfold Stop
    rename Fr _ _ _ _ => F5
    rename News _ _ _ _ => N5
    rename StrsAre _ (Txt.split _ _) => hS0
    rw [hsp] at hS0
    have hlen := strs_len hS0
    refine' iter_valsK (xK := Str.ofString "new_comps") (oK := listOf (List.toArray []) 0) (fun K i m o => ∃ (vs : List Value) (c : Nat) (t1 td tdd ts : Tok), m (Str.ofString "initial_slashes") = some (.str (r) t1) ∧ m (Str.ofString "new_comps") = some (.ref K) ∧ m (Str.ofString "dot") = some (.str (Str.ofString ".") td) ∧ m (Str.ofString "dotdot") = some (.str (Str.ofString "..") tdd) ∧ m (Str.ofString "sep") = some (.str (Str.ofString "/") ts) ∧ o = listOf (List.toArray vs) c ∧ StrsAre vs ((sp.take i).foldl (normStep (r)) []))
      ?hh ?hl ?hL F5 N5 ?hK ?hKm ?hne ?hj ?turn ?done
    (case hh => exact rfl)
    (case hl => exact News.isList N5 (by k_mem))
    (case hK => exact rfl)
    (case hKm => k_mem)
    (case hL => exact (N5 (_, listOf (List.toArray _) 0) (by k_mem)).2.1)
    (case hne => k_ne)
    (case hj => exact ⟨[], 0, _, _, _, _, rfl, rfl, rfl, rfl, rfl, rfl, StrsAre.nil⟩)
    case turn =>
      rintro K i v m₁ o₁ h tk own I hv hKI ⟨oI, hI⟩ hoo hlI ⟨vs, c, t1, td, tdd, ts, e1, e2, e3, e4, e5, rfl, hS⟩ F₁ N₁
      obtain ⟨p, tp, rfl, hp⟩ := strs_get hS0 hv
      generalize hst : (sp.take i).foldl (normStep (r)) [] = acc at hS
      have hnext := norm_take (r) sp i p hp []
      rw [hst] at hnext
      have hwt : wt acc ≤ 60001 := by
        have h1 := norm_fold_wt (r) (sp.take i) []
        have h2 := wt_take sp i
        rw [hst, wt_nil] at h1
        omega
      rw [hnext]
      have hl1 : acc.length ≤ 60001 := by have := wt_len acc; omega
      have hb1 : ∀ z ∈ acc, z.length ≤ 60001 := fun z hz => by have := wt_mem hz; omega
      have hps : p.length ≤ 60001 := by have := wt_mem (List.mem_of_getElem? hp); omega
      have F₂ := fr_at2 [(Str.ofString "initial_slashes", .str (r) t1), (Str.ofString "new_comps", .ref K), (Str.ofString "dot", .str (Str.ofString ".") td), (Str.ofString "dotdot", .str (Str.ofString "..") tdd), (Str.ofString "sep", .str (Str.ofString "/") ts)] F₁ (by simp [e1, e2, e3, e4, e5])
      clear F₁ F5 N5
      have hfix : (-1 + (acc.length : Int)).toNat = acc.length - 1 := by omega
      walk_at "steps"
      · have h1 : (p == Str.ofString ".") = true := by assumption
        rw [show normStep r acc p = acc by rw [normStep, if_pos (.inr (eq_of_beq h1))]]
        exact VEnd.intro [(K, _)] (by assumption) (by assumption) (by k_allIn) (by intro p hp; k_ownIn) (fun q hq => by rw [List.mem_singleton.mp hq]; exact hKI) ⟨_, rfl, _, _, _, _, _, _, rfl, rfl, rfl, rfl, rfl, rfl, by assumption⟩
      · have h0 : (p.length : Int) ≠ 0 := by assumption
        have h1 : (p == Str.ofString ".") = false := by assumption
        have h2 : (p != Str.ofString "..") = true := by assumption
        rw [show normStep r acc p = acc ++ [p] by rw [normStep, if_neg (fun q => q.elim (fun q => h0 (by omega)) (beq_f h1)), if_pos (.inl (bne_t h2))]]
        exact VEnd.intro [(K, _)] (by assumption) (by assumption) (by k_allIn) (by intro p hp; k_ownIn) (fun q hq => by rw [List.mem_singleton.mp hq]; exact hKI) ⟨_, rfl, _, _, _, _, _, _, rfl, rfl, rfl, rfl, rfl, rfl, by assumption⟩
      · have h0 : (p.length : Int) ≠ 0 := by assumption
        have h1 : (p == Str.ofString ".") = false := by assumption
        have h3 : 0 < acc.length := by assumption
        have h4 : (acc.getD (-1 + (acc.length : Int)).toNat Str.empty == Str.ofString "..") = true := by assumption
        rw [hfix] at h4
        rw [show normStep r acc p = acc ++ [p] by rw [normStep, if_neg (fun q => q.elim (fun q => h0 (by omega)) (beq_f h1)), if_pos (.inr (.inr ⟨List.length_pos_iff.mp h3, eq_of_beq h4⟩))]]
        exact VEnd.intro [(K, _)] (by assumption) (by assumption) (by k_allIn) (by intro p hp; k_ownIn) (fun q hq => by rw [List.mem_singleton.mp hq]; exact hKI) ⟨_, rfl, _, _, _, _, _, _, rfl, rfl, rfl, rfl, rfl, rfl, by assumption⟩
      · have h0 : (p.length : Int) ≠ 0 := by assumption
        have h1 : (p == Str.ofString ".") = false := by assumption
        have h2 : (p != Str.ofString "..") = false := by assumption
        have h3 : 0 < acc.length := by assumption
        have h4 : (acc.getD (-1 + (acc.length : Int)).toNat Str.empty == Str.ofString "..") = false := by assumption
        rw [hfix] at h4
        rw [show normStep r acc p = acc.dropLast by rw [normStep, if_neg (fun q => q.elim (fun q => h0 (by omega)) (beq_f h1)), if_neg (fun q => q.elim (fun q => q (bne_f h2)) (fun q => q.elim (fun q => by rw [q.2] at h3; exact Nat.lt_irrefl _ h3) (fun q => beq_f h4 q.2)))]]
        exact VEnd.intro [(K, _)] (by assumption) (by assumption) (by k_allIn) (by intro p hp; k_ownIn) (fun q hq => by rw [List.mem_singleton.mp hq]; exact hKI) ⟨_, rfl, _, _, _, _, _, _, rfl, rfl, rfl, rfl, rfl, rfl, by assumption⟩
      · have h0 : (p.length : Int) ≠ 0 := by assumption
        have h1 : (p == Str.ofString ".") = false := by assumption
        have h2 : (p != Str.ofString "..") = false := by assumption
        have h5 : (r.length : Int) ≠ 0 := by assumption
        have h3 : ¬ 0 < acc.length := by assumption
        have he : acc = [] := List.eq_nil_of_length_eq_zero (by omega)
        rw [show normStep r acc p = acc by rw [normStep, if_neg (fun q => q.elim (fun q => h0 (by omega)) (beq_f h1)), if_neg (fun q => q.elim (fun q => q (bne_f h2)) (fun q => q.elim (fun q => h5 (by omega)) (fun q => q.1 he))), he]; rfl]
        exact VEnd.intro [(K, _)] (by assumption) (by assumption) (by k_allIn) (by intro p hp; k_ownIn) (fun q hq => by rw [List.mem_singleton.mp hq]; exact hKI) ⟨_, rfl, _, _, _, _, _, _, rfl, rfl, rfl, rfl, rfl, rfl, by assumption⟩
      · have h0 : (p.length : Int) ≠ 0 := by assumption
        have h1 : (p == Str.ofString ".") = false := by assumption
        have h3 : 0 < acc.length := by assumption
        have h4 : (acc.getD (-1 + (acc.length : Int)).toNat Str.empty == Str.ofString "..") = true := by assumption
        rw [hfix] at h4
        rw [show normStep r acc p = acc ++ [p] by rw [normStep, if_neg (fun q => q.elim (fun q => h0 (by omega)) (beq_f h1)), if_pos (.inr (.inr ⟨List.length_pos_iff.mp h3, eq_of_beq h4⟩))]]
        exact VEnd.intro [(K, _)] (by assumption) (by assumption) (by k_allIn) (by intro p hp; k_ownIn) (fun q hq => by rw [List.mem_singleton.mp hq]; exact hKI) ⟨_, rfl, _, _, _, _, _, _, rfl, rfl, rfl, rfl, rfl, rfl, by assumption⟩
      · have h0 : (p.length : Int) ≠ 0 := by assumption
        have h1 : (p == Str.ofString ".") = false := by assumption
        have h2 : (p != Str.ofString "..") = false := by assumption
        have h3 : 0 < acc.length := by assumption
        have h4 : (acc.getD (-1 + (acc.length : Int)).toNat Str.empty == Str.ofString "..") = false := by assumption
        rw [hfix] at h4
        rw [show normStep r acc p = acc.dropLast by rw [normStep, if_neg (fun q => q.elim (fun q => h0 (by omega)) (beq_f h1)), if_neg (fun q => q.elim (fun q => q (bne_f h2)) (fun q => q.elim (fun q => by rw [q.2] at h3; exact Nat.lt_irrefl _ h3) (fun q => beq_f h4 q.2)))]]
        exact VEnd.intro [(K, _)] (by assumption) (by assumption) (by k_allIn) (by intro p hp; k_ownIn) (fun q hq => by rw [List.mem_singleton.mp hq]; exact hKI) ⟨_, rfl, _, _, _, _, _, _, rfl, rfl, rfl, rfl, rfl, rfl, by assumption⟩
      · have h0 : (p.length : Int) ≠ 0 := by assumption
        have h1 : (p == Str.ofString ".") = false := by assumption
        have h5 : (r.length : Int) = 0 := by assumption
        have h3 : ¬ 0 < acc.length := by assumption
        have he : acc = [] := List.eq_nil_of_length_eq_zero (by omega)
        rw [show normStep r acc p = acc ++ [p] by rw [normStep, if_neg (fun q => q.elim (fun q => h0 (by omega)) (beq_f h1)), if_pos (.inr (.inl ⟨by omega, he⟩))]]
        exact VEnd.intro [(K, _)] (by assumption) (by assumption) (by k_allIn) (by intro p hp; k_ownIn) (fun q hq => by rw [List.mem_singleton.mp hq]; exact hKI) ⟨_, rfl, _, _, _, _, _, _, rfl, rfl, rfl, rfl, rfl, rfl, by assumption⟩
      · have h0 : (p.length : Int) = 0 := by assumption
        rw [show normStep r acc p = acc by rw [normStep, if_pos (.inl (by omega))]]
        exact VEnd.intro [(K, _)] (by assumption) (by assumption) (by k_allIn) (by intro p hp; k_ownIn) (fun q hq => by rw [List.mem_singleton.mp hq]; exact hKI) ⟨_, rfl, _, _, _, _, _, _, rfl, rfl, rfl, rfl, rfl, rfl, by assumption⟩
    case done =>
      rintro K m₁ o₁ h tk ⟨vs, c, t1, td, tdd, ts, e1, e2, e3, e4, e5, rfl, hS⟩ F₁ N₁
      rw [hlen, List.take_length] at hS
      have hwt : wt (sp.foldl (normStep (r)) []) ≤ 60001 := by
        have h1 := norm_fold_wt (r) sp []
        rw [wt_nil] at h1
        omega
      generalize hst : sp.foldl (normStep (r)) [] = acc at hS hwt hnT
      have hl1 : acc.length ≤ 60001 := by have := wt_len acc; omega
      have F₂ := fr_at [(Str.ofString "initial_slashes", .str (r) t1), (Str.ofString "new_comps", .ref K), (Str.ofString "dot", .str (Str.ofString ".") td), (Str.ofString "dotdot", .str (Str.ofString "..") tdd), (Str.ofString "sep", .str (Str.ofString "/") ts)] F₁ (by simp [e1, e2, e3, e4, e5])
      clear F₁ F5 N5
      walk_at "steps"
      · refine ro_endT hret (by assumption) (by assumption) ?_
        have h0 : ¬ (x.length : Int) = 0 := by assumption
        have h1 : ((r ++ Txt.join (Str.ofString "/") acc).length : Int) ≠ 0 := by assumption
        rw [hnT (by omega), if_neg (by omega)]
      · refine ro_endT hret (by assumption) (by assumption) ?_
        have h0 : ¬ (x.length : Int) = 0 := by assumption
        have h1 : ((r ++ Txt.join (Str.ofString "/") acc).length : Int) = 0 := by assumption
        rw [hnT (by omega), if_pos (by omega)]
  · refine ro_endT hret (by assumption) (by assumption) ?_
    have h0 : (x.length : Int) = 0 := by assumption
    rw [normOf, if_pos (by omega)]
theorem normpath_ok (w : World) (x : Str) (t : Tok) (hx : x.length ≤ 60000) : RO w 5 151 [.str x t] NoPre (IsT (normOf x (rootT x) (tailT x))) :=
  norm_aux w x (rootT x) (tailT x) t hx (Nat.le_trans (rootT_len x) (by omega)) (Nat.le_trans (tailT_len x) hx) fun t => splitroot_ok w x t hx
end
section
open PySem.Builtin PySem.Builtin.Str
set_option maxRecDepth 100000
set_option maxHeartbeats 8000000
/-- the list that a pair stands for -/
def flat (st : Nat × List Str) : List Str := List.replicate st.1 (Str.ofString "..") ++ st.2
def okPair (b : Bool) (st : Nat × List Str) : Prop := (b = true → st.1 = 0) ∧ ∀ p ∈ st.2, p ≠ Str.ofString ".."
theorem flat_last (d : Nat) (N : List Str) (h : ∀ p ∈ N, p ≠ Str.ofString "..") : (flat (d, N) ≠ [] ∧ (flat (d, N)).getD ((flat (d, N)).length - 1) Str.empty = Str.ofString "..") ↔ (N = [] ∧ 0 < d) := by
  unfold flat
  rcases List.eq_nil_or_concat N with hN | ⟨N', x, hN⟩
  · subst hN
    rw [List.append_nil]
    cases d with
    | zero => simp
    | succ d => simp [List.getD]
  · rw [List.concat_eq_append] at hN
    subst hN
    have hx : x ≠ Str.ofString ".." := h x (by simp)
    rw [← List.append_assoc]
    constructor
    · intro z
      exfalso
      have := z.2
      simp at this
      exact hx this
    · intro z
      simp at z
theorem norm_two (r : Str) (b : Bool) (hb : b = true ↔ r.length ≠ 0) (st : Nat × List Str) (ok : okPair b st) (p : Str) : normStep r (flat st) p = flat (twoStep b st p) ∧ okPair b (twoStep b st p) := by
  obtain ⟨d, N⟩ := st
  obtain ⟨ok1, ok2⟩ := ok
  have e0 : p.length = 0 ↔ p = Str.ofString "" := by rw [← cd_len, ← cd_eq_nil, List.length_eq_zero_iff]
  unfold normStep twoStep
  by_cases h1 : p = Str.ofString "" ∨ p = Str.ofString "."
  · rw [if_pos (by rw [e0]; exact h1), if_pos h1]
    exact ⟨rfl, ok1, ok2⟩
  · rw [if_neg (by rw [e0]; exact h1), if_neg h1]
    by_cases h2 : p = Str.ofString ".."
    · rw [if_pos h2]
      have hl := flat_last d N ok2
      by_cases hN : N = []
      · rw [if_pos hN]
        cases b with
        | true =>
          have hd : d = 0 := ok1 rfl
          have hr : r.length ≠ 0 := hb.mp rfl
          subst hN; subst hd
          rw [if_neg (by
            rintro (z | z | z)
            · exact z h2
            · exact hr z.1
            · exact absurd (hl.mp z).2 (Nat.lt_irrefl 0))]
          exact ⟨rfl, ok1, ok2⟩
        | false =>
          have hr : r.length = 0 := Classical.byContradiction fun z => Bool.false_ne_true (hb.mpr z)
          subst hN
          rw [if_pos (by
            cases d with
            | zero => exact .inr (.inl ⟨hr, rfl⟩)
            | succ d => exact .inr (.inr (hl.mpr ⟨rfl, Nat.succ_pos _⟩)))]
          simp only [Bool.false_eq_true, if_false]
          refine ⟨?_, ⟨fun z => absurd z (by decide), fun q hq => absurd hq (by simp)⟩⟩
          unfold flat
          rw [h2, List.append_nil, List.append_nil, List.replicate_succ']
      · rw [if_neg hN, if_neg (by
            rintro (z | z | z)
            · exact z h2
            · exact hN (List.append_eq_nil_iff.mp z.2).2
            · exact hN (hl.mp z).1)]
        refine ⟨?_, ok1, fun q hq => ok2 q (List.dropLast_subset _ hq)⟩
        unfold flat
        exact List.dropLast_append_of_ne_nil hN
    · rw [if_neg h2, if_pos (.inl h2)]
      refine ⟨?_, ok1, fun q hq => ?_⟩
      · unfold flat; exact List.append_assoc ..
      · rcases List.mem_append.mp hq with hq | hq
        · exact ok2 q hq
        · rw [List.mem_singleton.mp hq]; exact h2
theorem norm_fold (r : Str) (b : Bool) (hb : b = true ↔ r.length ≠ 0) : ∀ (ss : List Str) (st : Nat × List Str), okPair b st → ss.foldl (normStep r) (flat st) = flat (ss.foldl (twoStep b) st)
  | [], _, _ => rfl
  | p :: ss, st, ok => by
    have h := norm_two r b hb st ok p
    rw [List.foldl_cons, List.foldl_cons, h.1]
    exact norm_fold r b hb ss _ h.2
theorem norm_list (r : Str) (ss : List Str) : ss.foldl (normStep r) [] = (if r.length ≠ 0 then [] else List.replicate (strEnd ss).2 (Str.ofString "..")) ++ (strEnd ss).1 := by
  by_cases h : r.length ≠ 0
  · rw [if_pos h]
    have := norm_fold r true (by simp [h]) ss (0, []) ⟨fun _ => rfl, by simp⟩
    rw [two_end] at this
    simpa [flat] using this
  · rw [if_neg h]
    have := norm_fold r false (by simpa using h) ss (0, []) ⟨fun _ => rfl, by simp⟩
    rw [two_end] at this
    simpa [flat] using this
end
section
open PySem.Builtin PySem.Builtin.Str
set_option maxRecDepth 100000
set_option maxHeartbeats 8000000
theorem s_upto1 (x : Str) : Txt.slice x none (some 1) = Str.ofString "/" ↔ (cd x).take 1 = [47] := by
  have h : cd (Txt.slice x none (some 1)) = (cd x).take 1 := cd_upto x 1
  rw [← h, ← cd_slash]
  exact ⟨fun z => by rw [z], fun z => cd_ext z⟩
theorem s_mid1 (x : Str) : Txt.slice x (some 1) (some 2) = Str.ofString "/" ↔ ((cd x).drop 1).take 1 = [47] := by
  have h : cd (Txt.slice x (some 1) (some 2)) = ((cd x).drop 1).take 1 := cd_mid x 1 2 (by decide)
  rw [← h, ← cd_slash]
  exact ⟨fun z => by rw [z], fun z => cd_ext z⟩
theorem s_mid2 (x : Str) : Txt.slice x (some 2) (some 3) = Str.ofString "/" ↔ ((cd x).drop 2).take 1 = [47] := by
  have h : cd (Txt.slice x (some 2) (some 3)) = ((cd x).drop 2).take 1 := cd_mid x 2 3 (by decide)
  rw [← h, ← cd_slash]
  exact ⟨fun z => by rw [z], fun z => cd_ext z⟩
theorem take1_row (ss : List Str) (hne : ss ≠ []) (h : ns ss) : (cd (rt ss)).take 1 = [47] ↔ 0 < rootS ss := by
  obtain ⟨a, r, e⟩ := List.exists_cons_of_ne_nil hne
  subst e
  rw [← starts_row a r h, cd_startswith]
  simp
theorem cd_rt_empty (b : Str) (r : List Str) : cd (rt (Str.ofString "" :: b :: r)) = 47 :: cd (rt (b :: r)) := by
  rw [cd_rt, cd_rt]
  show cd (Str.ofString "") ++ 47 :: jc ((b :: r).map cd) = _
  rw [cd_nil]; rfl
/-- how many slashes normpath keeps -/
def keptN (ss : List Str) : Nat := if rootS ss < 3 then rootS ss else 1
theorem rootS_pos {ss : List Str} (h : 0 < rootS ss) : ∃ b r, ss = Str.ofString "" :: b :: r ∧ rootS ss = rootS (b :: r) + 1 := by
  match ss, h with
  | [], h => exact absurd h (Nat.lt_irrefl _)
  | [_], h => exact absurd h (Nat.lt_irrefl _)
  | a :: b :: r, h =>
    by_cases q : a = Str.ofString ""
    · subst q; exact ⟨b, r, rfl, by rw [rootS, if_pos rfl]⟩
    · rw [rootS, if_neg q] at h; exact absurd h (Nat.lt_irrefl _)
theorem root_row (ss : List Str) (hne : ss ≠ []) (h : ns ss) : cd (rootT (rt ss)) = List.replicate (keptN ss) 47 ∧ tailT (rt ss) = rt (ss.drop (keptN ss)) := by
  have t1 := take1_row ss hne h
  unfold rootT tailT
  by_cases c0 : 0 < rootS ss
  · obtain ⟨b, r, e, er⟩ := rootS_pos c0
    have hb : ns (b :: r) := fun p hp => h p (by rw [e]; exact List.mem_cons_of_mem _ hp)
    have t2 := take1_row (b :: r) (by simp) hb
    have hx : cd (rt ss) = 47 :: cd (rt (b :: r)) := by rw [e]; exact cd_rt_empty b r
    have d1 : Txt.slice (rt ss) (some 1) none = rt (b :: r) := by
      apply cd_ext
      have : cd (Txt.slice (rt ss) (some 1) none) = (cd (rt ss)).drop 1 := cd_from _ 1
      rw [this, hx]; rfl
    have q0 : ¬ (Txt.slice (rt ss) none (some 1) ≠ Str.ofString "/") := by rw [Ne, s_upto1, t1]; exact fun z => z c0
    rw [if_neg q0, if_neg q0]
    by_cases c1 : 0 < rootS (b :: r)
    · obtain ⟨c, r', e', er'⟩ := rootS_pos c1
      have hc : ns (c :: r') := fun p hp => hb p (by rw [e']; exact List.mem_cons_of_mem _ hp)
      have t3 := take1_row (c :: r') (by simp) hc
      have hy : cd (rt (b :: r)) = 47 :: cd (rt (c :: r')) := by rw [e']; exact cd_rt_empty c r'
      by_cases c2 : 0 < rootS (c :: r')
      · have hk : keptN ss = 1 := by unfold keptN; rw [if_neg (by omega)]
        have q : Txt.slice (rt ss) (some 1) (some 2) ≠ Str.ofString "/" ∨ Txt.slice (rt ss) (some 2) (some 3) = Str.ofString "/" := by
          right; rw [s_mid2, hx, hy]; exact t3.mpr c2
        rw [if_pos q, if_pos q, hk, d1, e, cd_slash]
        exact ⟨rfl, rfl⟩
      · have hk : keptN ss = 2 := by unfold keptN; rw [if_pos (by omega)]; omega
        have q : ¬ (Txt.slice (rt ss) (some 1) (some 2) ≠ Str.ofString "/" ∨ Txt.slice (rt ss) (some 2) (some 3) = Str.ofString "/") := by
          rintro (z | z)
          · apply z; rw [s_mid1, hx]; exact t2.mpr c1
          · rw [s_mid2, hx, hy] at z; exact c2 (t3.mp z)
        rw [if_neg q, if_neg q, hk]
        constructor
        · have : cd (Txt.slice (rt ss) none (some 2)) = (cd (rt ss)).take 2 := cd_upto _ 2
          rw [this, hx, hy]; rfl
        · apply cd_ext
          have : cd (Txt.slice (rt ss) (some 2) none) = (cd (rt ss)).drop 2 := cd_from _ 2
          rw [this, hx, hy, e, e']; rfl
    · have hk : keptN ss = 1 := by unfold keptN; rw [if_pos (by omega)]; omega
      have q : Txt.slice (rt ss) (some 1) (some 2) ≠ Str.ofString "/" ∨ Txt.slice (rt ss) (some 2) (some 3) = Str.ofString "/" := by
        left; rw [Ne, s_mid1, hx]; exact fun z => c1 (t2.mp z)
      rw [if_pos q, if_pos q, hk, d1, e, cd_slash]
      exact ⟨rfl, rfl⟩
  · have hk : keptN ss = 0 := by unfold keptN; rw [if_pos (by omega)]; omega
    have q : Txt.slice (rt ss) none (some 1) ≠ Str.ofString "/" := by rw [Ne, s_upto1, t1]; exact c0
    rw [if_pos q, if_pos q, hk, cd_nil]
    exact ⟨rfl, rfl⟩
end
section
open PySem.Builtin PySem.Builtin.Str
set_option maxRecDepth 100000
set_option maxHeartbeats 8000000
theorem strEnd_drop : ∀ (ss : List Str) (e : Nat), e ≤ rootS ss → strEnd (ss.drop e) = strEnd ss ∧ (ss ≠ [] → ss.drop e ≠ [])
  | ss, 0, _ => ⟨by rw [List.drop_zero], fun h => by rw [List.drop_zero]; exact h⟩
  | ss, e + 1, h => by
    obtain ⟨b, r, q, er⟩ := rootS_pos (Nat.lt_of_lt_of_le (Nat.succ_pos e) h)
    have ih := strEnd_drop (b :: r) e (by omega)
    rw [q, List.drop_succ_cons, strEnd_cons, ih.1]
    refine ⟨?_, fun _ => ih.2 (by simp)⟩
    unfold strStep
    rw [if_neg (by decide +kernel), if_pos (.inl rfl)]
theorem jc_rep (z : List (List Nat)) (hz : z ≠ []) : ∀ e, jc (List.replicate e [] ++ z) = List.replicate e 47 ++ jc z
  | 0 => rfl
  | e + 1 => by
    rw [List.replicate_succ, List.replicate_succ, List.cons_append, List.cons_append, ← jc_rep z hz e]
    cases hq : List.replicate e [] ++ z with
    | nil => exact absurd (List.append_eq_nil_iff.mp hq).2 hz
    | cons a t => rfl
theorem strEnd_solid : ∀ (ss : List Str), ∀ p ∈ (strEnd ss).1, p ≠ Str.ofString ""
  | [], p, hp => by rw [strEnd_nil] at hp; cases hp
  | q :: r, p, hp => by
    have ih := strEnd_solid r
    rw [strEnd_cons] at hp
    unfold strStep at hp
    split at hp
    · exact ih p hp
    · split at hp
      · exact ih p hp
      · rename_i h1 h2
        split at hp
        · exact ih p hp
        · rcases List.mem_cons.mp hp with rfl | hp
          · exact fun z => h2 (.inl z)
          · exact ih p hp
theorem rt_len_zero (M : List Str) (h : ∀ p ∈ M, p ≠ Str.ofString "") : (rt M).length = 0 ↔ M = [] := by
  rw [← cd_len, cd_rt]
  constructor
  · intro z
    match M with
    | [] => rfl
    | [a] => exact absurd (cd_eq_nil.mp (List.length_eq_zero_iff.mp z)) (h a (List.mem_cons_self ..))
    | a :: b :: r => simp [jc] at z
  · rintro rfl; rfl
theorem keptN_le (ss : List Str) : keptN ss ≤ rootS ss := by unfold keptN; split <;> omega
theorem norm_row (ss : List Str) (hne : ss ≠ []) (h : ns ss) : normOf (rt ss) (rootT (rt ss)) (tailT (rt ss)) = rt (straightS ss) := by
  obtain ⟨r1, r2⟩ := root_row ss hne h
  have hd := strEnd_drop ss (keptN ss) (keptN_le ss)
  have hs : Txt.split (tailT (rt ss)) (Str.ofString "/") = ss.drop (keptN ss) := by
    rw [r2]; exact split_rt _ (hd.2 hne) (fun p hp => h p (List.mem_of_mem_drop hp))
  have hrl : (rootT (rt ss)).length = keptN ss := by rw [← cd_len, r1, List.length_replicate]
  generalize rootT (rt ss) = r at r1 hrl
  generalize tailT (rt ss) = tl at hs
  unfold normOf
  rw [hs, norm_list, hd.1, hrl]
  unfold straightS
  simp only []
  have hsol := strEnd_solid ss
  have hx : (rt ss).length = 0 → strEnd ss = ([], 0) := by
    intro z
    rcases List.eq_nil_or_concat ss with q | ⟨i, l, q⟩
    · exact absurd q hne
    · rw [List.concat_eq_append] at q
      rw [q] at z ⊢
      rw [(empty_row i l).mp z]
      decide +kernel
  generalize strEnd ss = e at hsol hx
  obtain ⟨k, d⟩ := e
  by_cases c : rootS ss = 0
  · have hk : keptN ss = 0 := by have := keptN_le ss; omega
    have hM : ∀ p ∈ List.replicate d (Str.ofString "..") ++ k, p ≠ Str.ofString "" := by
      intro p hp
      rcases List.mem_append.mp hp with hp | hp
      · rw [(List.mem_replicate.mp hp).2]; decide +kernel
      · exact hsol p hp
    have hr : ∀ y : Str, r ++ y = y := fun y => cd_ext (by rw [cd_app, r1, hk]; rfl)
    have hz : ¬ ((0 : Nat) ≠ 0) := fun z => z rfl
    rw [if_pos c, hk, if_neg hz, hr]
    show (if (rt ss).length = 0 then _ else if (rt (List.replicate d (Str.ofString "..") ++ k)).length = 0 then _ else rt (List.replicate d (Str.ofString "..") ++ k)) = _
    by_cases z : (rt ss).length = 0
    · have := hx z
      simp only [Prod.mk.injEq] at this
      rw [if_pos z, this.1, this.2, if_pos (by rfl), rt_one]
    · rw [if_neg z]
      by_cases q : List.replicate d (Str.ofString "..") ++ k = []
      · rw [if_pos ((rt_len_zero _ hM).mpr q), if_pos q, rt_one]
      · rw [if_neg (fun y => q ((rt_len_zero _ hM).mp y)), if_neg q]
  · have hk : keptN ss ≠ 0 := by unfold keptN; split <;> omega
    have e1 : cd (r ++ rt k) = List.replicate (keptN ss) 47 ++ jc (k.map cd) := by rw [cd_app, r1, cd_rt]
    have hx0 : ¬ (rt ss).length = 0 := by
      intro z
      rcases List.eq_nil_or_concat ss with q | ⟨i, l, q⟩
      · exact hne q
      · rw [List.concat_eq_append] at q
        rw [q] at z c
        rw [(empty_row i l).mp z] at c
        exact c rfl
    rw [if_neg hx0, if_neg c, if_pos hk]
    show (if (r ++ rt ([] ++ k)).length = 0 then _ else r ++ rt ([] ++ k)) = _
    rw [List.nil_append, if_neg (by rw [← cd_len, e1]; simp [hk])]
    apply cd_ext
    rw [e1, cd_rt, List.map_append, List.map_replicate, cd_nil]
    show _ = jc (List.replicate (keptN ss) [] ++ _)
    by_cases q : k = []
    · rw [if_pos q, q, jc_rep _ (by simp)]
      simp [jc, cd_nil]
    · rw [if_neg q, jc_rep _ (by simpa using q)]
end
section
open PySem.Builtin PySem.Builtin.Str
set_option maxRecDepth 100000
set_option maxHeartbeats 8000000
theorem cpre_comm : ∀ a b : List Str, cpre a b = cpre b a
  | [], [] => rfl
  | [], _ :: _ => rfl
  | _ :: _, [] => rfl
  | x :: a, y :: b => by
    unfold cpre
    by_cases h : x = y
    · rw [if_pos h, if_pos h.symm, cpre_comm a b, h]
    · rw [if_neg h, if_neg (fun z => h z.symm)]
/-- the text that commonpath makes, out of the rows' solid pieces -/
theorem shared_row (ss ss2 : List Str) : cd (rt (sharedS ss ss2)) = (if 0 < rootS ss then [47] else []) ++ cd (rt (cpre (solid ss) (solid ss2))) := by
  unfold sharedS
  generalize cpre (solid ss) (solid ss2) = k
  rw [cd_rt, cd_rt, List.map_append, List.map_replicate, cd_nil]
  rw [jc_rep _ (by split <;> simp_all)]
  have h1 : jc ((if k = [] then [Str.ofString ""] else k).map cd) = jc (k.map cd) := by
    by_cases q : k = []
    · rw [if_pos q, q]; simp [jc, cd_nil]
    · rw [if_neg q]
  rw [h1]
  by_cases c : 0 < rootS ss
  · rw [if_pos c]
    by_cases c1 : rootS ss < 1
    · omega
    · rw [if_neg c1]; rfl
  · rw [if_neg c, if_pos (by omega), show rootS ss = 0 by omega]; rfl
end
section
set_option maxRecDepth 100000
set_option maxHeartbeats 8000000
theorem ro_mono {w : World} {n n' : Nat} {f : Addr} {vs : List Value} {pre : Heap → Prop} {R : Heap → Heap → Value → Prop} (h : n ≤ n') (C : RO w n f vs pre R) : RO w n' f vs pre R :=
  fun mean mg mb dp un gd cn cs a ccd cl outer A₀ base h₀ L m s Q E B F X T hk hd hu hp ret => C mean mg mb dp un gd cn cs a ccd cl outer A₀ base h₀ L m s Q E B F X T hk (by omega) (by omega) hp ret
section
variable {w : World} {nn : Nat} {f : Addr} {vs : List Value} {pre : Heap → Prop} {mean : ExcName → Option Value} {mg mb : Str → Option Value} {dp un : Nat} {gd : Option (List Code)} {cn : Str} {cs : Scope} {a : Addr} {ccd : Value} {cl : List (Str × Addr)} {outer : List Env} {A₀ : Around} {base h₀ : Heap} {L : Addr} {m : Str → Option Value} {s : Shared} {Q E : Value → Shared → Prop} {news : List (Addr × Obj)}
/-- a list comes back: a new one, or the one at l that stands in the ledger -/
theorem ro_useLO {ss : List Str} {l : Addr} {o : Obj} (C : RO w nn f vs pre (IsLO ss l)) (hl : (l, o) ∈ news) (B : Below A₀ base outer h₀) (F : Fr h₀ L s.heap m) (X : (hd.heap_1 w.params).In h₀) (N : News h₀ L s.heap news) (T : Top hd.view_39 (looseW hd.view_39 [Str.ofString "_safe_string"]) mean mg mb h₀) (hk : cs.kind = .function)
    (hd : dp + nn < recursionLimit) (hu : un + 8 * nn < cLine) (hp : pre s.heap)
    (ret : ∀ D us n h' tk', Fr h₀ L h' m → News h₀ L h' ((D, listOf (List.toArray us) n) :: news) → (∀ p ∈ news, p.1 = D → D = l) → StrsAre us ss → Q (.ref D) { s with heap := h', toks := tk' }) :
    wpAny (model PySem.Challenge.rw_in0025_01.row.prog w) (ktrTop dp un gd cn cs L a ccd cl outer) (call (.ref f) vs) Q E s :=
  C _ _ _ _ _ _ _ _ _ _ _ _ _ _ _ _ _ _ _ _ B F X T hk hd hu hp fun r h' tk' F' k hR => by
    obtain ⟨D, us, n, rfl, h1, h2, h3⟩ := hR
    rcases h1 with h1 | rfl
    · obtain ⟨N', ne⟩ := news_more F N k h1 h2
      exact ret D us n h' tk' F' N' (fun p hp e => absurd e (ne p hp)) h3
    · have N1 := news_stay N k
      refine ret D us n h' tk' F' (fun p hp => ?_) (fun _ _ _ => rfl) h3
      rcases List.mem_cons.mp hp with rfl | hp
      · exact ⟨h2, (N1 _ hl).2⟩
      · exact N1 p hp
end
/-- what the law keeps of a row between its turns -/
def Good (b : Nat) (ss : List Str) : Prop := ss ≠ [] ∧ ns ss ∧ (∀ z ∈ ss, PyData.strOk z = true) ∧ wt ss ≤ b
theorem Good.wt60 {b : Nat} {ss : List Str} (g : Good b ss) (h : b ≤ 60000) : wt ss ≤ 60000 := Nat.le_trans g.2.2.2 h
theorem Good.pos {b : Nat} {ss : List Str} (g : Good b ss) : 0 < ss.length := List.length_pos_iff.mpr g.1
theorem Good.len {b : Nat} {ss : List Str} (g : Good b ss) (h : b ≤ 60000) : ss.length ≤ 60000 := Nat.le_trans (wt_len ss) (g.wt60 h)
theorem Good.mem {b : Nat} {ss : List Str} (g : Good b ss) (h : b ≤ 60000) : ∀ z ∈ ss, z.length ≤ 60000 := fun z hz => by have := wt_mem hz; have := g.wt60 h; omega
theorem Good.more {b c : Nat} {ss : List Str} (g : Good b ss) (h : b ≤ c) : Good c ss := ⟨g.1, g.2.1, g.2.2.1, Nat.le_trans g.2.2.2 h⟩
theorem mod_bounds (k : Int) (b : Int) (hb : 0 < b) : 0 ≤ k.fmod b ∧ k.fmod b < b := ⟨Int.fmod_nonneg_of_pos _ hb, Int.fmod_lt_of_pos _ hb⟩
theorem mod3 (k : Int) : k.fmod 3 = 0 ∨ k.fmod 3 = 1 ∨ k.fmod 3 = 2 := by
  have := mod_bounds k 3 (by decide); omega
section
variable {prog : Program} {w : World} {A : Around} {E : Value → Shared → Prop} {s : Shared} {Q : Value → Shared → Prop} {a b q d : Int} {t u : Tok}
theorem divmod_known {h₀ : Heap} {L : Addr} {m : Str → Option Value} {news : List (Addr × Obj)} (hd : a.fmod b = d) (F : Fr h₀ L s.heap m) (N : News h₀ L s.heap news) (hb : b ≠ 0)
    (hp : Builtin.divisionGoesByPylong a b = false ∨ PySem.PylongRoom (model prog w) A s)
    (h : ∀ h', Fr h₀ L h' m → News h₀ L h' ((s.heap.objs.size, { cls := .type "tuple", data := .seq #[.int (a.fdiv b) s.toks, .int d (s.toks + 1)] }) :: news) →
      Q (.ref s.heap.objs.size) { s with toks := s.toks + 1 + 1, heap := h' }) :
    wpAny (model prog w) A (call (.builtin "divmod") [.int a t, .int b u]) Q E s := by
  subst hd
  exact divmod_N F N hb h hp
end
end
section
open PySem.Builtin PySem.Builtin.Str
set_option maxRecDepth 100000
set_option maxHeartbeats 8000000
theorem rt_wt : ∀ ss : List Str, (rt ss).length ≤ wt ss
  | [] => by decide +kernel
  | [a] => by rw [rt_one, wt_cons, wt_nil]; omega
  | a :: b :: r => by
    have h := rt_wt (b :: r)
    have e : (cd (rt (a :: b :: r))).length = (cd a).length + (1 + (cd (rt (b :: r))).length) := by
      rw [cd_rt, cd_rt]
      show (cd a ++ 47 :: jc ((b :: r).map cd)).length = _
      simp; omega
    rw [cd_len, cd_len, cd_len] at e
    rw [wt_cons]; omega
theorem ok_app {x y : Str} (hx : PyData.strOk x = true) (hy : PyData.strOk y = true) : PyData.strOk (x ++ y) = true := by
  unfold PyData.strOk at *
  rw [show (x ++ y).cps = x.cps ++ y.cps from rfl, Array.all_append, hx, hy]; rfl
theorem ns_app {x y : Str} (hx : 47 ∉ cd x) (hy : 47 ∉ cd y) : 47 ∉ cd (x ++ y) := by rw [cd_app]; simp [hx, hy]
/-- what each piece of a row has -/
def Pc (p : Str) : Prop := 47 ∉ cd p ∧ PyData.strOk p = true
theorem Good.pcs {b : Nat} {ss : List Str} (g : Good b ss) : ∀ p ∈ ss, Pc p := fun p hp => ⟨g.2.1 p hp, g.2.2.1 p hp⟩
theorem Good.of {b : Nat} {ss : List Str} (h1 : ss ≠ []) (h2 : ∀ p ∈ ss, Pc p) (h3 : wt ss ≤ b) : Good b ss := ⟨h1, fun p hp => (h2 p hp).1, fun p hp => (h2 p hp).2, h3⟩
theorem pc_e : Pc (Str.ofString "") := ⟨by decide +kernel, by decide +kernel⟩
theorem pc_d : Pc (Str.ofString ".") := ⟨by decide +kernel, by decide +kernel⟩
theorem pc_dd : Pc (Str.ofString "..") := ⟨by decide +kernel, by decide +kernel⟩
theorem wt_rep (n : Nat) (y : Str) : wt (List.replicate n y) = n * (y.length + 1) := by
  induction n with
  | zero => rw [Nat.zero_mul]; rfl
  | succ n ih => rw [List.replicate_succ, wt_cons, ih, Nat.succ_mul]; omega
theorem step3 (st : List Str × Nat) (p : Str) : wt (strStep st p).1 + 3 * (strStep st p).2 ≤ wt st.1 + 3 * st.2 + (p.length + 1) := by
  unfold strStep
  split
  · next h => 
    subst h
    have : (Str.ofString "..").length = 2 := by decide +kernel
    show wt st.1 + 3 * (st.2 + 1) ≤ _; omega
  · split
    · omega
    · split
      · show wt st.1 + 3 * (st.2 - 1) ≤ _; omega
      · show wt (p :: st.1) + 3 * st.2 ≤ _; rw [wt_cons]; omega
theorem fold3 : ∀ (l : List Str) (st : List Str × Nat), wt (l.foldl strStep st).1 + 3 * (l.foldl strStep st).2 ≤ wt st.1 + 3 * st.2 + wt l
  | [], st => by rw [wt_nil]; exact Nat.le_refl _
  | p :: l, st => by
    have h1 := step3 st p
    have h2 := fold3 l (strStep st p)
    rw [List.foldl_cons, wt_cons]; omega
theorem end3 (ss : List Str) : wt (strEnd ss).1 + 3 * (strEnd ss).2 ≤ wt ss := by
  have := fold3 ss.reverse ([], 0)
  rw [wt_rev, wt_nil] at this
  unfold strEnd; omega
theorem step_pc (st : List Str × Nat) (p : Str) (h : ∀ q ∈ st.1, Pc q) (hp : Pc p) : ∀ q ∈ (strStep st p).1, Pc q := by
  unfold strStep
  split
  · exact h
  · split
    · exact h
    · split
      · exact h
      · intro q hq
        rcases List.mem_cons.mp hq with rfl | hq
        · exact hp
        · exact h q hq
theorem fold_pc : ∀ (l : List Str) (st : List Str × Nat), (∀ q ∈ st.1, Pc q) → (∀ q ∈ l, Pc q) → ∀ q ∈ (l.foldl strStep st).1, Pc q
  | [], _, h, _ => h
  | p :: l, st, h, hl => fold_pc l _ (step_pc st p h (hl p (List.mem_cons_self ..))) fun q hq => hl q (List.mem_cons_of_mem _ hq)
theorem end_pc (ss : List Str) (h : ∀ q ∈ ss, Pc q) : ∀ q ∈ (strEnd ss).1, Pc q := fold_pc _ _ (fun _ hq => by cases hq) fun q hq => h q (List.mem_reverse.mp hq)
theorem wt_or (k : List Str) : wt (if k = [] then [Str.ofString ""] else k) ≤ 1 + wt k := by
  have l0 : (Str.ofString "").length = 0 := by decide +kernel
  split
  · rw [wt_cons, wt_nil]; omega
  · omega
theorem good_straight {b : Nat} {ss : List Str} (g : Good b ss) : Good (b + 60) (straightS ss) := by
  have h1 := end3 ss
  have h2 := end_pc ss g.pcs
  have h3 := g.2.2.2
  have l0 : (Str.ofString "").length = 0 := by decide +kernel
  have l1 : (Str.ofString ".").length = 1 := by decide +kernel
  have l2 : (Str.ofString "..").length = 2 := by decide +kernel
  unfold straightS
  dsimp only
  split
  · split
    · exact Good.of (by simp) (fun p hp => by rw [List.mem_singleton.mp hp]; exact pc_d) (by rw [wt_cons, wt_nil]; omega)
    · next hne =>
      refine Good.of hne (fun p hp => ?_) ?_
      · rcases List.mem_append.mp hp with hp | hp
        · rw [List.eq_of_mem_replicate hp]; exact pc_dd
        · exact h2 p hp
      · rw [wt_append, wt_rep, l2]; omega
  · refine Good.of (fun e => ?_) (fun p hp => ?_) ?_
    · have := (List.append_eq_nil_iff.mp e).2
      split at this
      · cases this
      · contradiction
    · rcases List.mem_append.mp hp with hp | hp
      · rw [List.eq_of_mem_replicate hp]; exact pc_e
      · split at hp
        · rw [List.mem_singleton.mp hp]; exact pc_e
        · exact h2 p hp
    · rw [wt_append, wt_rep, l0]
      have h5 : (if rootS ss < 3 then rootS ss else 1) ≤ 2 := by split <;> omega
      have h6 := wt_or (strEnd ss).1
      omega
theorem strip_sub : ∀ (ss : List Str), ∀ p ∈ stripE ss, p ∈ ss
  | [], _, h => by cases h
  | y :: r, p, h => by
    unfold stripE at h
    split at h
    · cases h
    · rcases List.mem_cons.mp h with rfl | h
      · exact List.mem_cons_self ..
      · exact List.mem_cons_of_mem _ (strip_sub r p h)
theorem strip_wt : ∀ (ss : List Str), wt (stripE ss) ≤ wt ss
  | [] => Nat.le_refl _
  | y :: r => by
    have := strip_wt r
    unfold stripE
    split
    · rw [wt_nil]; omega
    · rw [wt_cons, wt_cons]; omega
theorem strip_nil : ∀ (ss : List Str), stripE ss = [] → Str.join (Str.ofString "") ss = Str.ofString ""
  | [], _ => rfl
  | [a], h => by
    unfold stripE at h
    split at h
    · next q => exact q.2
    · cases h
  | a :: b :: r, h => by
    have h1 : stripE (b :: r) = [] ∧ a = Str.ofString "" := by
      rw [stripE] at h
      split at h
      · next q => exact q
      · cases h
    show a ++ Str.ofString "" ++ Str.join (Str.ofString "") (b :: r) = Str.ofString ""
    rw [strip_nil (b :: r) h1.1, h1.2]
    decide +kernel
theorem join_strip (ss : List Str) (h : stripE ss = []) : Txt.join (Str.ofString "") ss = Str.ofString "" := by
  have e := strip_nil ss h
  rw [← StrLaws.glued_eq_join] at e
  exact e
theorem good_above {b : Nat} {ss : List Str} (g : Good b ss) : Good (b + 60) (aboveS ss) := by
  have h3 := g.2.2.2
  have hd : ∀ p ∈ ss.dropLast, Pc p := fun p hp => g.pcs p (List.dropLast_subset _ hp)
  have h4 := wt_init ss
  have l0 : (Str.ofString "").length = 0 := by decide +kernel
  unfold aboveS
  split
  · refine Good.of (by simp) (fun p hp => ?_) (by rw [wt_append, wt_cons, wt_nil]; omega)
    rcases List.mem_append.mp hp with hp | hp
    · exact hd p hp
    · rw [List.mem_singleton.mp hp]; exact pc_e
  · next hne =>
    exact Good.of (fun e => hne (join_strip _ e)) (fun p hp => hd p (strip_sub _ p hp)) (by have := strip_wt ss.dropLast; omega)
theorem good_last {b : Nat} {ss : List Str} (g : Good b ss) : Good (b + 60) (ss.drop (ss.length - 1)) := by
  have h3 := g.2.2.2
  have h4 := wt_drop ss (ss.length - 1)
  have := g.pos
  exact Good.of (fun e => by have := congrArg List.length e; simp at this; omega) (fun p hp => g.pcs p (List.mem_of_mem_drop hp)) (by omega)
theorem solidSub (ss : List Str) : ∀ p ∈ solid ss, p ∈ ss := fun _ hp => (List.mem_filter.mp hp).1
theorem solidWt : ∀ (ss : List Str), wt (solid ss) ≤ wt ss
  | [] => Nat.le_refl _
  | y :: r => by
    have := solidWt r
    unfold solid at *
    rw [List.filter_cons]
    split
    · rw [wt_cons, wt_cons]; omega
    · rw [wt_cons]; omega
theorem cpreSub : ∀ (a c : List Str), (∀ p ∈ cpre a c, p ∈ a) ∧ wt (cpre a c) ≤ wt a
  | [], [] => ⟨fun _ h => by simp [cpre] at h, by simp [cpre]⟩
  | [], _ :: _ => ⟨fun _ h => by simp [cpre] at h, by simp [cpre]⟩
  | _ :: _, [] => ⟨fun _ h => by simp [cpre] at h, by simp [cpre, wt_nil]⟩
  | x :: a, y :: c => by
    obtain ⟨i1, i2⟩ := cpreSub a c
    unfold cpre
    split
    · refine ⟨fun p hp => ?_, by rw [wt_cons, wt_cons]; omega⟩
      rcases List.mem_cons.mp hp with rfl | hp
      · exact List.mem_cons_self ..
      · exact List.mem_cons_of_mem _ (i1 p hp)
    · exact ⟨fun p h => by simp at h, by rw [wt_nil]; omega⟩
theorem good_shared {b : Nat} {ss ss2 : List Str} (g : Good b ss) : Good (b + 60) (sharedS ss ss2) := by
  have h3 := g.2.2.2
  obtain ⟨c1, c2⟩ := cpreSub (solid ss) (solid ss2)
  have h4 := solidWt ss
  have l0 : (Str.ofString "").length = 0 := by decide +kernel
  unfold sharedS
  refine Good.of (fun e => ?_) (fun p hp => ?_) ?_
  · have := (List.append_eq_nil_iff.mp e).2
    split at this
    · cases this
    · contradiction
  · rcases List.mem_append.mp hp with hp | hp
    · rw [List.eq_of_mem_replicate hp]; exact pc_e
    · split at hp
      · rw [List.mem_singleton.mp hp]; exact pc_e
      · exact g.pcs p (solidSub _ _ (c1 p hp))
  · rw [wt_append, wt_rep, l0]
    have h5 : (if rootS ss < 1 then rootS ss else 1) ≤ 1 := by split <;> omega
    have h6 := wt_or (cpre (solid ss) (solid ss2))
    omega
theorem good_joined {b : Nat} {ss ps : List Str} (g : Good b ss) (gp : Good 10 ps) : Good (b + 60) (joinedS ss ps) := by
  have h3 := g.2.2.2
  have h4 := gp.2.2.2
  unfold joinedS
  split
  · exact gp.more (by have := g.pos; have := wt_len ss; omega)
  · refine Good.of (fun e => gp.1 (List.append_eq_nil_iff.mp e).2) (fun p hp => ?_) ?_
    · rcases List.mem_append.mp hp with hp | hp
      · split at hp
        · exact g.pcs p (List.dropLast_subset _ hp)
        · exact g.pcs p hp
      · exact gp.pcs p hp
    · rw [wt_append]
      have := wt_init ss
      split <;> omega
theorem len_appS (x y : Str) : (x ++ y).length = x.length + y.length := by
  rw [← cd_len, ← cd_len, ← cd_len, cd_app, List.length_append]
theorem pc_app {x y : Str} (hx : Pc x) (hy : Pc y) : Pc (x ++ y) := ⟨ns_app hx.1 hy.1, ok_app hx.2 hy.2⟩
theorem good_refused {b : Nat} {ss : List Str} {y : Str} (g : Good b ss) (hy : Pc y) (hl : y.length ≤ 12) : Good (b + 60) (refusedS ss y) := by
  have h3 := g.2.2.2
  obtain ⟨a, t, rfl⟩ : ∃ a t, ss = a :: t := by
    cases ss with
    | nil => exact absurd rfl g.1
    | cons a t => exact ⟨a, t, rfl⟩
  have hlt : Pc (Str.ofString "<") := ⟨by decide +kernel, by decide +kernel⟩
  have hbl : Pc (Str.ofString " ") := ⟨by decide +kernel, by decide +kernel⟩
  have hfa : Pc (Str.ofString "() failed>") := ⟨by decide +kernel, by decide +kernel⟩
  have n1 : (Str.ofString "<").length = 1 := by decide +kernel
  have n2 : (Str.ofString " ").length = 1 := by decide +kernel
  have n3 : (Str.ofString "() failed>").length = 10 := by decide +kernel
  have hr : ∀ p ∈ (Str.ofString "<" ++ a) :: t, Pc p := fun p hp => by
    rcases List.mem_cons.mp hp with rfl | hp
    · exact pc_app hlt (g.pcs a (List.mem_cons_self ..))
    · exact g.pcs p (List.mem_cons_of_mem _ hp)
  have hw : wt ((Str.ofString "<" ++ a) :: t) ≤ b + 1 := by
    rw [wt_cons] at h3 ⊢
    rw [len_appS]; omega
  unfold refusedS
  simp only [List.getD_cons_zero, List.drop_succ_cons, List.drop_zero, List.singleton_append]
  generalize (Str.ofString "<" ++ a) :: t = r at hr hw
  have hrl : wt r.dropLast + (r.getD (r.length - 1) Str.empty).length ≤ wt r ∧ Pc (r.getD (r.length - 1) Str.empty) := by
    rcases List.eq_nil_or_concat r with q | ⟨i, l, q⟩
    · subst q; exact ⟨by decide +kernel, ⟨by decide +kernel, by decide +kernel⟩⟩
    · rw [List.concat_eq_append] at q
      subst q
      rw [List.dropLast_concat]
      have hl : (i ++ [l]).getD ((i ++ [l]).length - 1) Str.empty = l := by simp
      rw [hl]
      exact ⟨by rw [wt_append, wt_cons, wt_nil]; omega, hr l (by simp)⟩
  refine Good.of (by simp) (fun p hp => ?_) ?_
  · rcases List.mem_append.mp hp with hp | hp
    · exact hr p (List.dropLast_subset _ hp)
    · rw [List.mem_singleton.mp hp]
      exact pc_app (pc_app (pc_app hrl.2 hbl) hy) hfa
  · rw [wt_append, wt_cons, wt_nil, len_appS, len_appS, len_appS]; omega
end
section
set_option maxRecDepth 100000
set_option maxHeartbeats 8000000
set_option linter.unusedVariables false
local macro_rules | `(tactic| walk_at "pad 0") => `(tactic| fail "pad")
theorem fresh63 : True := by
  w_top off
  trivial
local macro_rules | `(tactic| walk_at "ro rest") => `(tactic| (refine' ro_rest ?k1 ?k2 ?k3 ?k5 ?kA ?kF ?kK ?k6 ?k7 ?k8 ?kV ?kP ?kG ?kB ?_ ?c2 ?c3 ?c4 ?c5; (case kA => exact rfl); (case kF => exact rfl); (case kK => assumption); (case k1 => k_asm); (case k2 => k_asm); (case k3 => k_asm); (case k5 => k_asm); (case k6 => k_is); (case k7 => k_is); (case k8 => ktr_room); (case kV => kl_lit); (case kP => exact rfl); (case kG => exact fun _ => rfl); (case kB => exact fun _ => locs rfl); (case c5 => decide); (case c2 => exact rfl); (case c3 => exact rfl); (case c4 => exact rfl); k_whole; intro D' g' L' h' hkg' F' N' B' X' T'; (try dsimp only); (try k_fold)))
local macro_rules | `(tactic| kt_len) => `(tactic| exact len_getD (by assumption) _)

theorem words_T10_0 : True := by
  w_top off
  k_with_none
  k_with "call builtin:issubclass" => (k_here; k_dflt (refine' call_isn md_str (by exact (News.get (by k_asm) (by k_mem))) sub_str ?_; k_whole); intro tk₉; (try dsimp only [List.any]))
  k_with "exec While" => (k_here; (with_reducible show wpAny _ _ (exec (Stmt.While _ _ _ _) _) _ _ _); refine stop_out ?_)
  k_with "exec While BoolOp" => (k_here; (with_reducible show wpAny _ _ (exec (Stmt.While _ _ _ _) _) _ _ _); refine stop_out ?_)
  k_with "exec While BoolOp cons nil" => (k_here; (with_reducible show wpAny _ _ (exec (Stmt.While _ _ _ _) _) _ _ _); refine stop_out ?_)
  k_with "exec While Compare cons nil" => (k_here; (with_reducible show wpAny _ _ (exec (Stmt.While _ _ _ _) _) _ _ _); refine stop_out ?_)
  k_with "strs" => first | with_reducible assumption | exact StrsAre.nil | exact StrsAre.cons _ _ (by walk_at "strs")
  k_with "fits" => ((try rw [strs_len (by walk_at "strs")]); (try simp only [sizeLine_eq, List.length_append, List.length_cons, List.length_drop, List.length_dropLast, List.length_take, List.length_nil, List.length_reverse, List.length_replicate, Int.toNat_natCast]); omega)
  k_with "subscriptTail Name Slice ref ref" => (k_here; (with_reducible show wpAny _ _ (subscriptTail _ (PySem.Expr.Slice _ _ none _) (Value.ref _) (Value.ref _)) _ _ _); k_dflt (refine' strs_slice (by k_asm) (by k_asm) (by kmk_list) (by kmk_part) (by kmk_part) (by walk_at "cut") ?_ (by with_unfolding_all rfl) (by kmk_pure) (by walk_at "fits")); intro D₉ ws₉ h₉ F₉ N₉ l1₉ hS₉; (try k_lt l1₉); (try k_sweep))
  k_with "binaryOp Add ref ref" => (k_here; (with_reducible show wpAny _ _ (binaryOp _ (Value.ref _) (Value.ref _)) _ _ _); k_dflt (refine' strs_cat (by k_asm) (by k_asm) (by kmk_list) (by kmk_list) (by walk_at "strs") (by walk_at "strs") ?_ (by walk_at "fits")); intro D₉ ws₉ h₉ F₉ N₉ l1₉ hS₉; (try k_lt l1₉); (try k_sweep))
  k_with "oks" => first | with_reducible assumption | decide +kernel | exact fun z hz => (by assumption : ∀ z ∈ _, PyData.strOk z = true) z (List.mem_of_mem_take hz) | exact fun z hz => (by assumption : ∀ z ∈ _, PyData.strOk z = true) z (List.mem_of_mem_drop hz)
  k_with "weighs" => first | omega | ((try simp only [wt_append, wt_cons, wt_nil]); omega) | (refine Nat.le_trans (wt_init _) ?_; walk_at "weighs") | (refine Nat.le_trans (wt_drop _ _) ?_; walk_at "weighs") | (refine Nat.le_trans (wt_take _ _) ?_; walk_at "weighs")
  k_with "call builtin:str.join" => (k_here; (with_reducible show wpAny _ _ (call (Value.builtin _) [Value.str _ _, Value.ref _]) _ _ _); k_dflt (refine' join_wt (by kmk_list) (by walk_at "strs") (by decide +kernel) (by walk_at "weighs") ?_); intro t₉ tk₉)
  k_with "subscriptTail Name Slice ref ref" => (k_here; (with_reducible show wpAny _ _ (subscriptTail _ (PySem.Expr.Slice none none (some _) _) (Value.ref _) (Value.ref _)) _ _ _); k_dflt (refine' strs_back (by k_asm) (by k_asm) (by kmk_list) (by kmk_part) (by walk_at "strs") ?_ (by with_unfolding_all rfl) (by kmk_pure) (by walk_at "fits")); intro D₉ ws₉ h₉ F₉ N₉ l1₉ hS₉; (try k_lt l1₉); (try k_sweep))
  k_with "binaryOp Mult ref int" => (k_here; (with_reducible show wpAny _ _ (binaryOp Operator.Mult (Value.ref _) (Value.int _ _)) _ _ _); k_dflt (refine' strs_rep (by k_asm) (by k_asm) (by k_mem) (by first | omega | decide) (by first | omega | decide) ?_); intro D₉ ws₉ h₉ F₉ N₉ l1₉ hS₉; (try k_lt l1₉); (try k_sweep))
  k_with "truthy ref" => (k_here; (with_reducible show wpAny _ _ (truthy (Value.ref _)) _ _ _); k_dflt (refine' strs_truth (by kmk_list) (by walk_at "strs") (by walk_at "fits") ?_); intro tk₉)
  k_with "subscriptTail Subscript Name Constant Slice ref ref" => (k_here; (with_reducible show wpAny _ _ (subscriptTail _ (PySem.Expr.Slice _ _ none _) (Value.ref _) (Value.ref _)) _ _ _); k_dflt (refine' strs_slice (by k_asm) (by k_asm) (by kmk_list) (by kmk_part) (by kmk_part) (by walk_at "cut") ?_ (by with_unfolding_all rfl) (by kmk_pure) (by walk_at "fits")); intro D₉ ws₉ h₉ F₉ N₉ l1₉ hS₉; (try k_lt l1₉); (try k_sweep))
  k_with "subscriptTail Subscript Name Constant Slice ref ref" => (k_here; (with_reducible show wpAny _ _ (subscriptTail _ (PySem.Expr.Slice none none (some _) _) (Value.ref _) (Value.ref _)) _ _ _); k_dflt (refine' strs_back (by k_asm) (by k_asm) (by kmk_list) (by kmk_part) (by walk_at "strs") ?_ (by with_unfolding_all rfl) (by kmk_pure) (by walk_at "fits")); intro D₉ ws₉ h₉ F₉ N₉ l1₉ hS₉; (try k_lt l1₉); (try k_sweep))
  k_with "call ref" => (k_here; k_dflt (first
  | (refine' ro_useT (sep_ok _ _ _) (by k_asm) (by k_asm) (by k_asm) (by k_asm) (by k_asm) (by first | exact rfl | assumption) (by ktr_room) (by ktr_units) (by exact trivial) ?_; intro t₉ h₉ tk₉ F₉ N₉; (try k_sweep); (try dsimp only); (try k_fold))
  | (refine' ro_useT (fspath_ok _ _ _) (by k_asm) (by k_asm) (by k_asm) (by k_asm) (by k_asm) (by first | exact rfl | assumption) (by ktr_room) (by ktr_units) (by exact trivial) ?_; intro t₉ h₉ tk₉ F₉ N₉; (try k_sweep); (try dsimp only); (try k_fold))))
  trivial
theorem join_ok (w : World) (x y : Str) (t u : Tok) (hx : x.length ≤ 60000) (hy : y.length ≤ 60000) : RO w 3 123 [.str x t, .str y u] NoPre (IsT (joinT x y)) := by
  unfold RO
  k_fill
  intro mean mg mb dp un gd cn cs a ccd cl outer A₀ base h₀ L m s Q E B F X T hk hd hu hpre hret
  refine wpAny_call ?_
  k_dflt walk_at "ro rest"
  k_steps
  all_goals refine ro_endTg hret (by assumption) (by assumption) (by assumption) ?_
  · have h1 : Txt.startswith y (Str.ofString "/") = true := by assumption
    rw [joinT, if_pos (.inl h1)]
  · have h1 : Txt.startswith y (Str.ofString "/") = false := by assumption
    have h2 : (x.length : Int) ≠ 0 := by assumption
    have h3 : Txt.endswith x (Str.ofString "/") = true := by assumption
    rw [joinT, if_neg (fun q => q.elim (fun q => by rw [h1] at q; cases q) (fun q => h2 (by omega))), if_pos h3]
  · have h1 : Txt.startswith y (Str.ofString "/") = false := by assumption
    have h2 : (x.length : Int) ≠ 0 := by assumption
    have h3 : Txt.endswith x (Str.ofString "/") = false := by assumption
    rw [joinT, if_neg (fun q => q.elim (fun q => by rw [h1] at q; cases q) (fun q => h2 (by omega))), if_neg (by rw [h3]; exact Bool.false_ne_true)]
  · have h2 : (x.length : Int) = 0 := by assumption
    rw [joinT, if_pos (.inr (by omega))]
end
local macro_rules | `(tactic| walk_at "ro in") => `(tactic| (refine' ro_enter ?k1 ?k2 ?k3 ?k5 ?kA ?kF ?kK ?k6 ?k7 ?k8 ?k9 ?kB ?_ ?c2 ?c3 ?c4 ?c5; (case kA => exact rfl); (case kF => exact rfl); (case kK => assumption); (case k1 => k_asm); (case k2 => k_asm); (case k3 => k_asm); (case k5 => k_asm); (case k6 => k_is); (case k7 => k_is); (case k8 => ktr_room); (case k9 => first | exact binds_K (by k_in) rfl (by k_is) rfl rfl rfl | exact BindsTo.of_eq rfl); (case c5 => decide); (case kB => exact locs rfl); (case c2 => exact rfl); (case c3 => exact rfl); (case c4 => exact rfl); k_whole; intro L' h' F' N' B' X' T'; (try dsimp only); (try k_fold)))
section
set_option maxRecDepth 100000
set_option maxHeartbeats 8000000
set_option linter.unusedVariables false

local macro_rules | `(tactic| walk_at "pad 0") => `(tactic| fail "pad")
local macro_rules | `(tactic| walk_at "pad 1") => `(tactic| fail "pad")
theorem fresh64 : True := by
  w_top off
  trivial
theorem words_T13_0 : True := by
  w_top off
  k_with_none
  k_with "steps" => repeat' ((fail_if_success (with_reducible show VPost _ _ _ _ _ _ _ _ _)); (fail_if_success (with_reducible show WhileStep2 _ _ _ _ _ _ _ _)); (fail_if_success (with_reducible show Stop _)); first | (k_unfold; (try dsimp only)) | walk1 | (dsimp only; walk1) | (leave1; (try dsimp only)) | fail "no step")
  k_with "exec While" => (k_here; (with_reducible show wpAny _ _ (exec (Stmt.While _ _ _ _) _) _ _ _); refine stop_out ?_)
  k_with "exec While BoolOp" => (k_here; (with_reducible show wpAny _ _ (exec (Stmt.While _ _ _ _) _) _ _ _); refine stop_out ?_)
  k_with "exec While BoolOp cons nil" => (k_here; (with_reducible show wpAny _ _ (exec (Stmt.While _ _ _ _) _) _ _ _); refine stop_out ?_)
  k_with "exec While Compare cons nil" => (k_here; (with_reducible show wpAny _ _ (exec (Stmt.While _ _ _ _) _) _ _ _); refine stop_out ?_)
  k_with "len" => first | with_reducible assumption | (with_reducible refine' len_getD (by assumption) _) | (with_reducible refine' len_join (by assumption)) | (with_reducible refine' KT.len_app (by walk_at "len") (by walk_at "len")) | ((with_reducible show (PySem.Str.ofString _).length ≤ _); exact Nat.le_refl _)
  k_with "binaryOp Add str str" => (k_here; (with_reducible show wpAny _ _ (binaryOp Operator.Add (Value.str _ _) (Value.str _ _)) _ _ _); (refine' KXadd.add (by walk_at "len") (by walk_at "len") (by exact Nat.le_of_ble_eq_true rfl) ?_); intro t₉ tk₉ hl₉)
  k_with "truthy str" => (k_here; (with_reducible show wpAny _ _ (PySem.truthy (Value.str _ _)) _ _ _); (refine' truthT (by walk_at "len") (by exact Nat.le_of_ble_eq_true rfl) ?_); intro tk₉)
  k_with "call ref" => (k_here; k_dflt (rename RO _ 6 _ _ _ _ => C₉; first | (refine' ro_useT C₉ (by k_asm) (by k_asm) (by k_asm) (by k_asm) (by k_asm) (by first | exact rfl | assumption) (by ktr_room) (by ktr_units) (by exact trivial) ?_; intro t₉ h₉ tk₉ F₉ N₉; (try k_sweep); (try dsimp only); (try k_fold))))
  trivial
theorem safe_norm_text (w : World) (x y z : Str) (t u : Tok) (C : RO w 6 151 [.str x t] NoPre (IsT y)) : RO w 8 29 [.str x t, .str z u, .ref 151] NoPre (IsT y) := by
  unfold RO
  k_fill
  intro mean mg mb dp un gd cn cs a ccd cl outer A₀ base h₀ L m s Q E B F X T hk hd hu hpre hret
  refine wpAny_call ?_
  k_dflt walk_at "ro in"
  walk_at "steps"
  all_goals (refine ro_endT hret (by assumption) (by assumption) rfl)

theorem safe_dir_text (w : World) (x y z : Str) (t u : Tok) (C : RO w 6 144 [.str x t] NoPre (IsT y)) : RO w 8 29 [.str x t, .str z u, .ref 144] NoPre (IsT y) := by
  unfold RO
  k_fill
  intro mean mg mb dp un gd cn cs a ccd cl outer A₀ base h₀ L m s Q E B F X T hk hd hu hpre hret
  refine wpAny_call ?_
  k_dflt walk_at "ro in"
  walk_at "steps"
  all_goals (refine ro_endT hret (by assumption) (by assumption) rfl)

theorem safe_base_text (w : World) (x y z : Str) (t u : Tok) (C : RO w 6 137 [.str x t] NoPre (IsT y)) : RO w 8 29 [.str x t, .str z u, .ref 137] NoPre (IsT y) := by
  unfold RO
  k_fill
  intro mean mg mb dp un gd cn cs a ccd cl outer A₀ base h₀ L m s Q E B F X T hk hd hu hpre hret
  refine wpAny_call ?_
  k_dflt walk_at "ro in"
  walk_at "steps"
  all_goals (refine ro_endT hret (by assumption) (by assumption) rfl)
end
section
set_option maxRecDepth 100000
set_option maxHeartbeats 8000000
set_option linter.unusedVariables false
theorem fresh65 : True := by
  w_top off
  trivial
local macro_rules | `(tactic| k_ne) => `(tactic| (refine neN ?_; (try dsimp only); first | with_reducible assumption | (with_reducible refine Ne.symm ?hs9; with_reducible assumption) | exact Nat.ne_of_lt (by with_reducible assumption) | exact Nat.ne_of_gt (by with_reducible assumption) | (simp only [ne_eq, *, not_false_eq_true]; done) | (with_reducible refine Ne.symm ?hs9; simp only [ne_eq, *, not_false_eq_true]; done) | exact Nat.ne_of_lt (by simp only [*]; done) | exact Nat.ne_of_gt (by simp only [*]; done) | ((repeat (with_reducible rename _ ∧ _ => hc9; obtain ⟨_, _⟩ := hc9)); (repeat (with_reducible rename _ ≠ _ => hc9; clear hc9)); omega)))
local macro_rules | `(tactic| lcg_src) => `(tactic| k_mem)

theorem words_T14_0 : True := by
  w_top off
  k_with_none
  k_with "steps" => repeat' ((fail_if_success (with_reducible show VPost _ _ _ _ _ _ _ _ _)); (fail_if_success (with_reducible show WhileStep2 _ _ _ _ _ _ _ _)); (fail_if_success (with_reducible show Stop _)); first | (k_unfold; (try dsimp only)) | walk1 | (dsimp only; walk1) | (leave1; (try dsimp only)) | fail "no step")
  k_with "exec While" => (k_here; (with_reducible show wpAny _ _ (exec (Stmt.While _ _ _ _) _) _ _ _); refine stop_out ?_)
  k_with "exec While BoolOp" => (k_here; (with_reducible show wpAny _ _ (exec (Stmt.While _ _ _ _) _) _ _ _); refine stop_out ?_)
  k_with "exec While BoolOp cons nil" => (k_here; (with_reducible show wpAny _ _ (exec (Stmt.While _ _ _ _) _) _ _ _); refine stop_out ?_)
  k_with "exec While Compare cons nil" => (k_here; (with_reducible show wpAny _ _ (exec (Stmt.While _ _ _ _) _) _ _ _); refine stop_out ?_)
  k_with "len" => first | with_reducible assumption | (with_reducible refine' len_getD (by assumption) _) | (with_reducible refine' len_join (by assumption)) | (with_reducible refine' KT.len_app (by walk_at "len") (by walk_at "len")) | ((with_reducible show (PySem.Str.ofString _).length ≤ _); exact Nat.le_refl _)
  k_with "binaryOp Add str str" => (k_here; (with_reducible show wpAny _ _ (binaryOp Operator.Add (Value.str _ _) (Value.str _ _)) _ _ _); (refine' KXadd.add (by walk_at "len") (by walk_at "len") (by exact Nat.le_of_ble_eq_true rfl) ?_); intro t₉ tk₉ hl₉)
  k_with "truthy str" => (k_here; (with_reducible show wpAny _ _ (PySem.truthy (Value.str _ _)) _ _ _); (refine' truthT (by walk_at "len") (by exact Nat.le_of_ble_eq_true rfl) ?_); intro tk₉)
  k_with "strs" => first | with_reducible assumption | exact StrsAre.nil | exact StrsAre.cons _ _ (by walk_at "strs")
  k_with "fits" => ((try rw [strs_len (by walk_at "strs")]); (try simp only [sizeLine_eq, List.length_append, List.length_cons, List.length_drop, List.length_dropLast, List.length_take, List.length_nil, List.length_reverse, List.length_replicate, Int.toNat_natCast]); omega)
  k_with "subscriptTail Name Slice ref ref" => (k_here; (with_reducible show wpAny _ _ (subscriptTail _ (PySem.Expr.Slice _ _ none _) (Value.ref _) (Value.ref _)) _ _ _); k_dflt (refine' strs_slice (by k_asm) (by k_asm) (by kmk_list) (by kmk_part) (by kmk_part) (by walk_at "cut") ?_ (by with_unfolding_all rfl) (by kmk_pure) (by walk_at "fits")); intro D₉ ws₉ h₉ F₉ N₉ l1₉ hS₉; (try k_lt l1₉); (try k_sweep))
  k_with "binaryOp Add ref ref" => (k_here; (with_reducible show wpAny _ _ (binaryOp _ (Value.ref _) (Value.ref _)) _ _ _); k_dflt (refine' strs_cat (by k_asm) (by k_asm) (by kmk_list) (by kmk_list) (by walk_at "strs") (by walk_at "strs") ?_ (by walk_at "fits")); intro D₉ ws₉ h₉ F₉ N₉ l1₉ hS₉; (try k_lt l1₉); (try k_sweep))
  k_with "oks" => first | with_reducible assumption | decide +kernel | exact fun z hz => (by assumption : ∀ z ∈ _, PyData.strOk z = true) z (List.mem_of_mem_take hz) | exact fun z hz => (by assumption : ∀ z ∈ _, PyData.strOk z = true) z (List.mem_of_mem_drop hz)
  k_with "weighs" => first | omega | ((try simp only [wt_append, wt_cons, wt_nil]); omega) | (refine Nat.le_trans (wt_init _) ?_; walk_at "weighs") | (refine Nat.le_trans (wt_drop _ _) ?_; walk_at "weighs") | (refine Nat.le_trans (wt_take _ _) ?_; walk_at "weighs")
  k_with "call builtin:str.join" => (k_here; (with_reducible show wpAny _ _ (call (Value.builtin _) [Value.str _ _, Value.ref _]) _ _ _); k_dflt (refine' join_wt (by kmk_list) (by walk_at "strs") (by decide +kernel) (by walk_at "weighs") ?_); intro t₉ tk₉)
  k_with "subscriptTail Name Slice ref ref" => (k_here; (with_reducible show wpAny _ _ (subscriptTail _ (PySem.Expr.Slice none none (some _) _) (Value.ref _) (Value.ref _)) _ _ _); k_dflt (refine' strs_back (by k_asm) (by k_asm) (by kmk_list) (by kmk_part) (by walk_at "strs") ?_ (by with_unfolding_all rfl) (by kmk_pure) (by walk_at "fits")); intro D₉ ws₉ h₉ F₉ N₉ l1₉ hS₉; (try k_lt l1₉); (try k_sweep))
  k_with "binaryOp Mult ref int" => (k_here; (with_reducible show wpAny _ _ (binaryOp Operator.Mult (Value.ref _) (Value.int _ _)) _ _ _); k_dflt (refine' strs_rep (by k_asm) (by k_asm) (by k_mem) (by first | omega | decide) (by first | omega | decide) ?_); intro D₉ ws₉ h₉ F₉ N₉ l1₉ hS₉; (try k_lt l1₉); (try k_sweep))
  k_with "truthy ref" => (k_here; (with_reducible show wpAny _ _ (truthy (Value.ref _)) _ _ _); k_dflt (refine' strs_truth (by kmk_list) (by walk_at "strs") (by walk_at "fits") ?_); intro tk₉)
  k_with "subscriptTail Subscript Name Constant Slice ref ref" => (k_here; (with_reducible show wpAny _ _ (subscriptTail _ (PySem.Expr.Slice _ _ none _) (Value.ref _) (Value.ref _)) _ _ _); k_dflt (refine' strs_slice (by k_asm) (by k_asm) (by kmk_list) (by kmk_part) (by kmk_part) (by walk_at "cut") ?_ (by with_unfolding_all rfl) (by kmk_pure) (by walk_at "fits")); intro D₉ ws₉ h₉ F₉ N₉ l1₉ hS₉; (try k_lt l1₉); (try k_sweep))
  k_with "subscriptTail Subscript Name Constant Slice ref ref" => (k_here; (with_reducible show wpAny _ _ (subscriptTail _ (PySem.Expr.Slice none none (some _) _) (Value.ref _) (Value.ref _)) _ _ _); k_dflt (refine' strs_back (by k_asm) (by k_asm) (by kmk_list) (by kmk_part) (by walk_at "strs") ?_ (by with_unfolding_all rfl) (by kmk_pure) (by walk_at "fits")); intro D₉ ws₉ h₉ F₉ N₉ l1₉ hS₉; (try k_lt l1₉); (try k_sweep))
  k_with "call builtin:str.split" => (k_here; (with_reducible show wpAny _ _ (call (Value.builtin "str.split") [Value.str _ _, Value.str _ _]) _ _ _); k_dflt (refine' strs_split (by k_asm) (by k_asm) (by decide +kernel) ?_ (by (rw [sizeLine_eq]; omega))); intro D₉ ws₉ h₉ k₉ F₉ N₉ l1₉ hS₉; (try k_lt l1₉); (try k_sweep))
  k_with "call builtin:list.append" => (k_here; (with_reducible show wpAny _ _ (call (Value.builtin "list.append") [Value.ref _, Value.str _ _]) _ _ _); k_dflt (refine' strs_append2 (by k_asm) (by k_asm) (by k_upd) (by walk_at "strs") (by walk_at "fits") ?_); intro h₉ F₉ N₉ hS₉; (try k_sweep))
  k_with "call builtin:list.pop" => (k_here; (with_reducible show wpAny _ _ (call (Value.builtin "list.pop") [Value.ref _]) _ _ _); k_dflt (refine' strs_pop2 (by k_asm) (by k_asm) (by k_upd) (by walk_at "strs") (by first | assumption | omega | (apply List.length_pos_iff.mpr; assumption)) (by walk_at "fits") ?_); intro h₉ t₉ F₉ N₉ hS₉; (try k_sweep))
  k_with "subscriptTail Name UnaryOp ref int" => (k_here; (with_reducible show wpAny _ _ (subscriptTail _ _ (Value.ref _) (Value.int _ _)) _ _ _); k_dflt (refine' strs_item_last (by kmk_list) (by walk_at "strs") (by walk_at "pos") ?_); intro t₉)
  k_with "pos" => first | assumption | ((try simp only [List.length_append, List.length_cons, List.length_drop, List.length_nil]); omega)
  k_with "subscriptTail Name Constant ref int" => (k_here; (with_reducible show wpAny _ _ (subscriptTail _ _ (Value.ref _) (Value.int _ _)) _ _ _); k_dflt (refine' lit_item (vs := [_, _]) (by exact News.isList (by k_asm) (by k_mem)) (by decide) (by decide) (by rfl) ?_; k_whole))
  k_with "subscriptTail Name Constant ref int" => (k_here; (with_reducible show wpAny _ _ (subscriptTail _ _ (Value.ref _) (Value.int _ _)) _ _ _); k_dflt (refine' strs_item (by kmk_list) (by walk_at "strs") (by decide) (by decide) (by omega) ?_); intro t₉)
  k_with "subscriptTail Subscript Name Constant Constant ref int" => walk_at "subscriptTail Name Constant ref int"
  k_with "call builtin:len" => (k_here; (with_reducible show wpAny _ _ (call (Value.builtin "len") [Value.ref _]) _ _ _); k_dflt (refine' strs_lenR (by kmk_list) (by walk_at "strs") (by walk_at "fits") ?_); intro t₉ tk₉)
  k_with "call builtin:len cons nil [ref ]" => walk_at "call builtin:len"
  k_with "call type:map" => (k_here; (with_reducible show wpAny _ _ (call (Value.type "map") [_, Value.ref _]) _ _ _); k_dflt (refine' map_N (by k_asm) (by k_asm) (by kmk_list) ?_); intro M₉ T₉ I₉ h₉ F₉ N₉ off₉; (try dsimp only); (try k_fold))
  k_with "call type:tuple" => (k_here; (with_reducible show wpAny _ _ (call (Value.type "tuple") [Value.ref _]) _ _ _); k_dflt (refine' tuple_N (by k_asm) (by k_asm) (by k_asm) (by k_asm) (by k_asm) (by first | exact rfl | assumption) (by ktr_room) (by ktr_units) (by kmk_list) (by assumption) ?_); intro D₉ t1₉ t2₉ h₉ tk₉ F₉ N₉ ne₉; (try k_sweep); (try dsimp only); (try k_fold))
  k_with "exec Try" => (k_here; (with_reducible show wpAny _ _ (exec (Stmt.Try _ (_ :: _) _ [] _) (envOfC _ _ _ _ _)) _ _ _); refine wpAny_Try_except ?_)
  k_with "exec Assign cons ListComp" => (k_here; (with_reducible show wpAny _ _ (exec (Stmt.Assign _ (PySem.Expr.ListComp _ [⟨_, PySem.Expr.Tuple _ _ _, _, _⟩] _ _) _) _) _ _ _); k_dflt (refine Assign_ListComp_tup (by k_asm) (by rfl) (by with_unfolding_all rfl) (by with_unfolding_all rfl) (by decide) (by rfl) (by decide) (by rfl) (by rfl) (by rfl) ?_))
  k_with "TupSrc" => (k_here; k_dflt (refine TupSrc.intro (by rfl) (by k_asm) (by k_asm) (by k_mem) (by first | size_fits | exact Nat.le_of_ble_eq_true rfl) ?_); intro g₉; lcg_lit)
  k_with "CompRest" => (with_unfolding_all (refine LCg.CompRest.succ ?_); intro v₉ I₉ oI₉ C₉ oC₉ D₉ m₉ h₉ tk₉ E₉ hv₉ hC₉ hx₉ F₉ N₉ off₉ ne₉; (have hv9₉ := Option.some.inj hv₉); subst hv9₉; (try simp only [LCg.Off3, and_true] at off₉))
  k_with "eval ListComp" => (k_here; k_dflt (refine LCt.ListComp_T (F₀ := by k_asm) (by with_unfolding_all rfl) (by decide) (by rfl) (by decide) (by rfl) ?_))
  k_with "CompEnd" => first | (refine LCg.CompEnd.intro (by assumption) (by assumption) _ (by intro p₉ hp₉; k_ownIn) (by assumption) (by lcg_src) ⟨rfl, ?_⟩; walk_at "filt end") | lcg_end
  k_with "filt end" => first | exact ⟨notin_t (by assumption), _, rfl⟩ | exact notin_f (by assumption)
  k_with "exec Assign cons ListComp" => (k_here; (with_reducible show wpAny _ _ (exec (Stmt.Assign _ (PySem.Expr.ListComp (PySem.Expr.Call _ _ _ _) [⟨_, PySem.Expr.Name _ _, [], _⟩] _ _) _) _) _ _ _); (try (with_reducible rename News _ _ _ (_ ++ _) => lN₉; simp only [List.cons_append, List.nil_append] at lN₉)); k_dflt (refine Assign_ListComp_tup (by k_asm) (by rfl) (by with_unfolding_all rfl) (by with_unfolding_all rfl) (by decide) (by rfl) (by decide) (by rfl) (by rfl) (by rfl) ?_))
  k_with "eval SetComp" => (k_here; k_dflt (refine SetComp_tup (fun y => Txt.startswith y (Str.ofString "/")) (by k_asm) (by with_unfolding_all rfl) (by decide) (by rfl) (by decide) (by rfl) ?_))
  k_with "SetSrc" => (k_here; k_dflt ((refine SetSrc.intro (by rfl) (by k_asm) (by k_asm) (by k_mem) ?_ ?_); (all_goals first
  | (intro p₉ t₉ I₉ oI₉ C₉ oC₉ D₉ oD₉ m₉ h₉ tk₉ E₉ hp₉ hC₉ hx₉ F₉ N₉ off₉ ne₉; (have hpl₉ : p₉.length ≤ 60000 := (by (cases hp₉ with | inl q => (rw [q]; assumption) | inr q => (rw [q]; assumption)))); (try simp only [LCg.Off3, and_true] at off₉))
  | (intro D₉ h₉ tk₉ F₉ N₉ off₉; (try simp only [LCg.Off1, and_true] at off₉)))))
  k_with "CompEnd bool" => (refine LCg.CompEnd.intro (by assumption) (by assumption) _ (by intro p₉ hp₉; k_ownIn) (by assumption) (by lcg_src) ⟨rfl, rfl⟩)
  k_with "assign Tuple" => (k_here; (with_reducible show wpAny _ _ (assign (PySem.Expr.Tuple [PySem.Expr.Name _ _] _ _) _ (Value.ref _)) _ _ _); k_dflt (refine' assign_set1 (by exact rfl) (by k_asm) (by k_asm) (by k_mem) (by assumption) ?_); intro h₉ F₉ N₉; (try k_sweep))
  k_with "CompSrcT" => (k_here; k_dflt (refine LCt.CompSrcT.ledger (by rfl) (by k_asm) (by k_asm) (by k_mem) (by (rw [List.size_toArray]; walk_at "fits")) ?_); intro g₉; (refine filt_rest (fun p => !(p == Str.ofString "" || p == Str.ofString ".")) (by walk_at "strs") (fun p₉ t₉ I₉ oI₉ C₉ oC₉ D₉ m₉ ys₉ h₉ tk₉ E₉ hp₉ hC₉ hx₉ F₉ N₉ off₉ ne₉ => ?_) (fun ys₉ hys₉ => ?_)); (all_goals try (rename _ ∈ Txt.split _ _ => hp9₉; have hpl₉ := len_of_split (by assumption) hp9₉)))
  k_with "filt end" => first | exact ⟨solid_t (by assumption) (by assumption), _, rfl⟩ | exact solid_f1 (by assumption) | exact solid_f2 (by assumption)
  k_with "call builtin:min" => (k_here; k_dflt (refine' min_N (by exact rfl) (by k_asm) (by k_asm) (by k_mem) (by k_mem) (by k_mem) (by walk_at "strs") (by walk_at "strs") (by ktr_units) ?_); intro P₉ ys₉ as₉ h₉ tk₉ hm₉ hS₉ he₉ F₉ N₉)
  k_with "call builtin:max" => (k_here; k_dflt (refine' max_N (by exact rfl) (by k_asm) (by k_asm) (by k_mem) (by k_mem) (by k_mem) (by walk_at "strs") (by walk_at "strs") (by ktr_units) ?_); intro P₉ ys₉ as₉ h₉ tk₉ hm₉ hS₉ he₉ F₉ N₉)
  k_with "exec For Tuple Call" => (k_here; (with_reducible show wpAny _ _ (exec (Stmt.For (PySem.Expr.Tuple _ _ _) _ _ _ _) _) _ _ _); (rename Fr _ _ _ _ => lF₉); (with_unfolding_all refine' For_turns lF₉ ?_ (by exact fun _ => rfl); k_whole))
  k_with "call type:enumerate" => (k_here; refine stop_out ?_)
  k_with "subscriptTail Name Name ref int" => (k_here; (with_reducible show wpAny _ _ (subscriptTail _ _ (Value.ref _) (Value.int _ _)) _ _ _); k_dflt (refine' strs_item (by kmk_list) (by walk_at "strs") (by omega) (by omega) (by omega) ?_); intro t₉)
  k_with "len" => (with_reducible refine' Nat.le_trans (Txt.slice_le _ _ _) ?_; walk_at "len")
  trivial
theorem common_ok (w : World) (l : Addr) (x y : Str) (t u : Tok) (hx : x.length ≤ 60000) (hy : y.length ≤ 60000) (hxy : Txt.startswith y (Str.ofString "/") = Txt.startswith x (Str.ofString "/")) : RO w 30 156 [.ref l] (fun h => h.IsList l (List.toArray [.str x t, .str y u])) (IsT (commonT x y)) := by
  unfold RO
  k_fill
  intro mean mg mb dp un gd cn cs a ccd cl outer A₀ base h₀ L m s Q E B F X T hk hd hu hpre hret
  refine wpAny_call ?_
  k_dflt walk_at "ro cells"
  have hl : s.heap.IsList l (List.toArray [.str x t, .str y u]) := hpre
  have hsx : (Txt.split x (Str.ofString "/")).length ≤ 60001 := by have := split_wt x; have := wt_len (Txt.split x (Str.ofString "/")); omega
  have hsy : (Txt.split y (Str.ofString "/")).length ≤ 60001 := by have := split_wt y; have := wt_len (Txt.split y (Str.ofString "/")); omega
  walk_at "steps"
  rename Fr _ _ _ _ => F5
  rename News _ _ _ _ => N5
  obtain ⟨P1, P2, ys1, ys2, as1, as2, v1, v2, v3, v4, N0, hS1, hS2, hlt, hcp, hw1, hw2⟩ := pick_mm (C := _) (x := x) (y := y) hx hy F5 N5 rfl rfl rfl rfl (by assumption) (by assumption) (List.mem_cons_of_mem _ (List.mem_cons_of_mem _ (List.mem_cons_of_mem _ (List.mem_cons_of_mem _ (List.mem_cons_of_mem _ (List.mem_cons_of_mem _ (List.mem_cons_of_mem _ (List.mem_cons_of_mem _ (List.mem_cons_of_mem _ (List.mem_cons_self ..)))))))))) (by assumption) (by assumption) (by assumption) (by assumption)
  obtain ⟨nx0, hN, N1⟩ := name_news N0
  clear N5 N0
  unfold Stop
  have eP : P1 = _ := (Value.ref.inj (Option.some.inj (show some (Value.ref _) = some (Value.ref P1) from v1))).symm
  subst eP
  have hn1 : as1.length ≤ 60001 := Nat.le_trans (wt_len as1) hw1
  have hn2 : as2.length ≤ 60001 := Nat.le_trans (wt_len as2) hw2
  have hlP := (N1 (P1, LCg.lst ys1) (by rw [← hN]; exact List.mem_cons_self ..))
  refine enum_loop (J := fun i m nx => m (Str.ofString "s1") = some (.ref P1) ∧ m (Str.ofString "s2") = some (.ref P2) ∧ m (Str.ofString "common") = some (.ref P1) ∧ m (Str.ofString "isabs") = some (.bool (Txt.startswith x (Str.ofString "/"))) ∧ nx = nx0 ∧ as1.take i = as2.take i)
    rfl rfl rfl rfl F5 N1 ⟨_, hlP.1, rfl, _, rfl⟩ hlP.2.1 ⟨v1, v2, v3, v4, rfl, by simp⟩ ?_ ?_
  · rintro i v ti m₁ news₁ h tk own wr hv ⟨e1, e2, e3, e4, rfl, e6⟩ hoff hlI F₁ N₂
    obtain ⟨z, tz, rfl, hz⟩ := strs_get hS1 hv
    have hi1 : i < as1.length := (List.getElem?_eq_some_iff.mp hz).1
    have hi2 : i < as2.length := lex_room hlt e6 hi1
    have F₂ := fr_at3 [(Str.ofString "s1", .ref P1), (Str.ofString "s2", .ref P2), (Str.ofString "common", .ref P1), (Str.ofString "isabs", .bool (Txt.startswith x (Str.ofString "/")))] F₁ (by simp [e1, e2, e3, e4])
    rw [← hN] at N₂
    simp only [List.cons_append, List.nil_append] at N₂
    have hwi : wt (as1.take ((i : Int)).toNat) ≤ 60001 := Nat.le_trans (wt_take _ _) hw1
    clear F₁ F5 N1
    walk_at "steps"
    · have hq : (z != as2.getD ((i : Int)).toNat Str.empty) = true := by assumption
      have hfin := end_brk (x := x) (y := y) hcp e6 hz hi2 hq
      unfold EPost
      dsimp only
      walk_at "steps"
      all_goals refine ro_endT hret (by assumption) (by assumption) ?_
      all_goals first | exact common_t (by assumption) hfin | exact common_f (by assumption) hfin | w_report
    · have hq : (z != as2.getD ((i : Int)).toNat Str.empty) = false := by assumption
      rename Fr s.heap _ _ _ => F9
      rename News s.heap _ _ _ => N9
      have hy2 : as2[i]? = some z := by rw [at_getD hi2, ← bne_f hq]
      exact ⟨_, _, _, _, news₁, rfl, F9, N9, fun p hp => by rw [← hN] at hp; exact List.mem_append_left own hp, fun p hp => List.mem_append_right [_, _, _] hp, hoff, rfl, rfl, rfl, rfl, rfl, take_more e6 hz hy2⟩
  · rintro m₁ news₁ h tk ⟨e1, e2, e3, e4, rfl, e6⟩ F₁ N₂
    have F₂ := fr_at [(Str.ofString "s1", .ref P1), (Str.ofString "s2", .ref P2), (Str.ofString "common", .ref P1), (Str.ofString "isabs", .bool (Txt.startswith x (Str.ofString "/")))] F₁ (by simp [e1, e2, e3, e4])
    rw [← hN] at N₂
    clear F₁ F5 N1
    have hfin := end_done (x := x) (y := y) hcp (strs_len hS1) e6
    walk_at "steps"
    all_goals refine ro_endT hret (by assumption) (by assumption) ?_
    all_goals first | exact common_t (by assumption) hfin | exact common_f (by assumption) hfin | w_report
end
section
set_option maxRecDepth 100000
set_option maxHeartbeats 8000000
set_option linter.unusedVariables false

theorem fresh66 : True := by
  w_top off
  trivial
theorem words_T15_0 : True := by
  w_top off
  k_with_none
  k_with "steps" => repeat' ((fail_if_success (with_reducible show VPost _ _ _ _ _ _ _ _ _)); (fail_if_success (with_reducible show WhileStep2 _ _ _ _ _ _ _ _)); (fail_if_success (with_reducible show Stop _)); first | (k_unfold; (try dsimp only)) | walk1 | (dsimp only; walk1) | (leave1; (try dsimp only)) | fail "no step")
  k_with "exec While" => (k_here; (with_reducible show wpAny _ _ (exec (Stmt.While _ _ _ _) _) _ _ _); refine stop_out ?_)
  k_with "exec While BoolOp" => (k_here; (with_reducible show wpAny _ _ (exec (Stmt.While _ _ _ _) _) _ _ _); refine stop_out ?_)
  k_with "exec While BoolOp cons nil" => (k_here; (with_reducible show wpAny _ _ (exec (Stmt.While _ _ _ _) _) _ _ _); refine stop_out ?_)
  k_with "exec While Compare cons nil" => (k_here; (with_reducible show wpAny _ _ (exec (Stmt.While _ _ _ _) _) _ _ _); refine stop_out ?_)
  k_with "len" => first | with_reducible assumption | (with_reducible refine' len_getD (by assumption) _) | (with_reducible refine' len_join (by assumption)) | (with_reducible refine' KT.len_app (by walk_at "len") (by walk_at "len")) | ((with_reducible show (PySem.Str.ofString _).length ≤ _); exact Nat.le_refl _)
  k_with "binaryOp Add str str" => (k_here; (with_reducible show wpAny _ _ (binaryOp Operator.Add (Value.str _ _) (Value.str _ _)) _ _ _); (refine' KXadd.add (by walk_at "len") (by walk_at "len") (by exact Nat.le_of_ble_eq_true rfl) ?_); intro t₉ tk₉ hl₉)
  k_with "truthy str" => (k_here; (with_reducible show wpAny _ _ (PySem.truthy (Value.str _ _)) _ _ _); (refine' truthT (by walk_at "len") (by exact Nat.le_of_ble_eq_true rfl) ?_); intro tk₉)
  k_with "call ref" => (k_here; k_dflt (rename RO _ 30 _ _ _ _ => C₉; first | (refine' ro_useT C₉ (by k_asm) (by k_asm) (by k_asm) (by k_asm) (by k_asm) (by first | exact rfl | assumption) (by ktr_room) (by ktr_units) (by kmk_list) ?_; intro t₉ h₉ tk₉ F₉ N₉; (try k_sweep); (try dsimp only); (try k_fold))))
  trivial
theorem safe_common (w : World) (l : Addr) (us : List Value) (y z : Str) (u : Tok) (C : RO w 30 156 [.ref l] (fun h => h.IsList l (List.toArray us)) (IsT y)) : RO w 33 29 [.ref l, .str z u, .ref 156] (fun h => h.IsList l (List.toArray us)) (IsT y) := by
  unfold RO
  k_fill
  intro mean mg mb dp un gd cn cs a ccd cl outer A₀ base h₀ L m s Q E B F X T hk hd hu hpre hret
  refine wpAny_call ?_
  k_dflt walk_at "ro in"
  have hl : s.heap.IsList l (List.toArray us) := hpre
  walk_at "steps"
  all_goals (refine ro_endT hret (by assumption) (by assumption) rfl)
end
section
open PySem.Builtin PySem.Builtin.Str
set_option maxRecDepth 100000
set_option maxHeartbeats 8000000
theorem snoc_of {ss : List Str} (h : ss ≠ []) : ∃ i l, ss = i ++ [l] := by
  rcases List.eq_nil_or_concat ss with q | ⟨i, l, q⟩
  · exact absurd q h
  · exact ⟨i, l, by rw [q, List.concat_eq_append]⟩
theorem row_dir {b : Nat} {ss : List Str} (g : Good b ss) : dirT (rt ss) = rt (aboveS ss) := by
  obtain ⟨i, l, rfl⟩ := snoc_of g.1
  exact dir_row i l g.2.1
theorem row_base {b : Nat} {ss : List Str} (g : Good b ss) : baseT (rt ss) = rt (ss.drop (ss.length - 1)) := by
  obtain ⟨i, l, rfl⟩ := snoc_of g.1
  rw [base_row i l (g.2.1 l (by simp))]
  simp [rt_one]
theorem row_join {b c : Nat} {ss ps : List Str} (g : Good b ss) (gp : Good c ps) : joinT (rt ss) (rt ps) = rt (joinedS ss ps) := by
  obtain ⟨i, l, rfl⟩ := snoc_of g.1
  obtain ⟨a, r, rfl⟩ := List.exists_cons_of_ne_nil gp.1
  exact join_row i l a r g.2.1 gp.2.1
theorem row_fail {b : Nat} {ss : List Str} (g : Good b ss) (y : Str) : failT (rt ss) y = rt (refusedS ss y) := by
  obtain ⟨a, t, rfl⟩ := List.exists_cons_of_ne_nil g.1
  rw [refused_row]; rfl
theorem row_starts {b : Nat} {ss : List Str} (g : Good b ss) : Txt.startswith (rt ss) (Str.ofString "/") = decide (0 < rootS ss) := by
  obtain ⟨a, t, rfl⟩ := List.exists_cons_of_ne_nil g.1
  have := starts_row a t g.2.1
  by_cases h : 0 < rootS (a :: t)
  · rw [this.mpr h, decide_eq_true h]
  · rw [decide_eq_false h]
    cases q : Txt.startswith (rt (a :: t)) (Str.ofString "/") with
    | false => rfl
    | true => exact absurd (this.mp q) h
theorem row_common {b c : Nat} {ss ss2 : List Str} (g : Good b ss) (g2 : Good c ss2) : commonT (rt ss) (rt ss2) = rt (sharedS ss ss2) := by
  apply cd_ext
  rw [shared_row]
  unfold commonT
  rw [row_starts g, split_rt ss g.1 g.2.1, split_rt ss2 g2.1 g2.2.1, cd_app]
  congr 1
  by_cases h : 0 < rootS ss
  · rw [decide_eq_true h, if_pos rfl, if_pos h, cd_slash]
  · rw [decide_eq_false h, if_neg (by decide), if_neg h]
    exact cd_upto _ 0
section
variable (w : World) {b c : Nat} {ss ss2 : List Str} (g : Good b ss) (hb : b ≤ 60000) (t u : Tok) (z : Str)
include g hb
theorem rt60 : (rt ss).length ≤ 60000 := Nat.le_trans (rt_wt ss) (g.wt60 hb)
theorem c_norm : RO w 8 29 [.str (rt ss) t, .str z u, .ref 151] NoPre (IsT (rt (straightS ss))) := by
  have C := ro_mono (n' := 6) (by decide) (normpath_ok w (rt ss) t (rt60 g hb))
  rw [norm_row ss g.1 g.2.1] at C
  exact safe_norm_text w _ _ z t u C
theorem c_dir : RO w 8 29 [.str (rt ss) t, .str z u, .ref 144] NoPre (IsT (rt (aboveS ss))) := by
  have C := ro_mono (n' := 6) (by decide) (dirname_ok w (rt ss) t (rt60 g hb))
  rw [row_dir g] at C
  exact safe_dir_text w _ _ z t u C
theorem c_base : RO w 8 29 [.str (rt ss) t, .str z u, .ref 137] NoPre (IsT (rt (ss.drop (ss.length - 1)))) := by
  have C := ro_mono (n' := 6) (by decide) (basename_ok w (rt ss) t (rt60 g hb))
  rw [row_base g] at C
  exact safe_base_text w _ _ z t u C
theorem c_join {ps : List Str} (gp : Good c ps) (hc : c ≤ 60000) : RO w 3 123 [.str (rt ss) t, .str (rt ps) u] NoPre (IsT (rt (joinedS ss ps))) := by
  have C := join_ok w (rt ss) (rt ps) t u (rt60 g hb) (rt60 gp hc)
  rw [row_join g gp] at C
  exact C
theorem c_common (g2 : Good c ss2) (hc : c ≤ 60000) (l : Addr) (t2 : Tok) (h : decide (0 < rootS ss) = decide (0 < rootS ss2)) : RO w 33 29 [.ref l, .str z u, .ref 156] (fun h => h.IsList l (List.toArray [.str (rt ss) t, .str (rt ss2) t2])) (IsT (rt (sharedS ss ss2))) := by
  have C := common_ok w l (rt ss) (rt ss2) t t2 (rt60 g hb) (rt60 g2 hc) (by rw [row_starts g, row_starts g2, h])
  rw [row_common g g2] at C
  exact safe_common w l _ _ z u C
theorem c_common_bad (g2 : Good c ss2) (hc : c ≤ 60000) (l : Addr) (t2 : Tok) (n : Nat) (news : List (Addr × Obj)) (hl : (l, listOf (List.toArray [.str (rt ss) t, .str (rt ss2) t2]) n) ∈ news) (h : decide (0 < rootS ss) ≠ decide (0 < rootS ss2)) : RS w 33 29 [.ref l, .str (rt ss2) u, .ref 156] news (rt (refusedS ss2 (Str.ofString "commonpath"))) := by
  have C := common_bad w l (rt ss) (rt ss2) t t2 (rt60 g hb) (rt60 g2 hc) (by rw [row_starts g, row_starts g2]; exact fun e => h e.symm)
  have D := safe_common_bad w l _ n (rt ss2) u news hl (rt60 g2 hc) C
  rw [row_fail g2] at D
  exact D
theorem c_norm_list (l : Addr) (us : List Value) (n : Nat) (news : List (Addr × Obj)) (hl : (l, listOf (List.toArray us) n) ∈ news) : RS w 9 29 [.ref l, .str (rt ss) t, .ref 151] news (rt (refusedS ss (Str.ofString "normpath"))) := by
  have D := safe_norm_list w l us n (rt ss) t news hl (rt60 g hb)
  rw [row_fail g] at D
  exact D
theorem c_dir_list (l : Addr) (us : List Value) (n : Nat) (news : List (Addr × Obj)) (hl : (l, listOf (List.toArray us) n) ∈ news) : RS w 9 29 [.ref l, .str (rt ss) t, .ref 144] news (rt (refusedS ss (Str.ofString "dirname"))) := by
  have D := safe_dir_list w l us n (rt ss) t news hl (rt60 g hb)
  rw [row_fail g] at D
  exact D
theorem c_base_list (l : Addr) (us : List Value) (n : Nat) (news : List (Addr × Obj)) (hl : (l, listOf (List.toArray us) n) ∈ news) : RS w 9 29 [.ref l, .str (rt ss) t, .ref 137] news (rt (refusedS ss (Str.ofString "basename"))) := by
  have D := safe_base_list w l us n (rt ss) t news hl (rt60 g hb)
  rw [row_fail g] at D
  exact D
end
end
section
set_option maxRecDepth 100000
set_option maxHeartbeats 8000000
set_option linter.unusedVariables false
theorem fresh68 : True := by
  w_top off
  trivial
local macro_rules | `(tactic| kt_len) => `(tactic| exact len_getD (by assumption) _)
local macro_rules | `(tactic| walk_at "cut") => `(tactic| first | exact sl_init (by walk_at "strs") | exact sl_last (by walk_at "strs") | exact sl_upto (by walk_at "strs") (by first | decide | omega) | exact sl_from (by walk_at "strs") (by first | decide | omega))

theorem words_T6_0 : True := by
  w_top off
  k_with_none
  k_with "exec While" => (k_here; (with_reducible show wpAny _ _ (exec (Stmt.While _ _ _ _) _) _ _ _); refine stop_out ?_)
  k_with "strs" => first | with_reducible assumption | exact StrsAre.nil | exact StrsAre.cons _ _ (by walk_at "strs")
  k_with "fits" => ((try rw [strs_len (by walk_at "strs")]); (try simp only [sizeLine_eq, List.length_append, List.length_cons, List.length_drop, List.length_dropLast, List.length_take, List.length_nil, List.length_reverse]); omega)
  k_with "subscriptTail Name Slice ref ref" => (k_here; (with_reducible show wpAny _ _ (subscriptTail _ (PySem.Expr.Slice _ _ none _) (Value.ref _) (Value.ref _)) _ _ _); k_dflt (refine' strs_slice (by k_asm) (by k_asm) (by kmk_list) (by kmk_part) (by kmk_part) (by walk_at "cut") ?_ (by with_unfolding_all rfl) (by kmk_pure) (by walk_at "fits")); intro D₉ ws₉ h₉ F₉ N₉ l1₉ hS₉; (try k_lt l1₉); (try k_sweep))
  k_with "binaryOp Add ref ref" => (k_here; (with_reducible show wpAny _ _ (binaryOp _ (Value.ref _) (Value.ref _)) _ _ _); k_dflt (refine' strs_cat (by k_asm) (by k_asm) (by kmk_list) (by kmk_list) (by walk_at "strs") (by walk_at "strs") ?_ (by walk_at "fits")); intro D₉ ws₉ h₉ F₉ N₉ l1₉ hS₉; (try k_lt l1₉); (try k_sweep))
  k_with "oks" => first | with_reducible assumption | decide +kernel | exact fun z hz => (by assumption : ∀ z ∈ _, PyData.strOk z = true) z (List.mem_of_mem_take hz) | exact fun z hz => (by assumption : ∀ z ∈ _, PyData.strOk z = true) z (List.mem_of_mem_drop hz)
  k_with "weighs" => first | omega | ((try simp only [wt_append, wt_cons, wt_nil]); omega) | (refine Nat.le_trans (wt_init _) ?_; walk_at "weighs") | (refine Nat.le_trans (wt_drop _ _) ?_; walk_at "weighs") | (refine Nat.le_trans (wt_take _ _) ?_; walk_at "weighs")
  k_with "call builtin:str.join" => (k_here; (with_reducible show wpAny _ _ (call (Value.builtin _) [Value.str _ _, Value.ref _]) _ _ _); k_dflt (refine' join_wt (by kmk_list) (by walk_at "strs") (by decide +kernel) (by walk_at "weighs") ?_); intro t₉ tk₉)
  trivial
theorem above_ok (w : World) (l : Addr) (us : List Value) (ss : List Str) (hs : StrsAre us ss) (hw : wt ss ≤ 60000) (hok : ∀ z ∈ ss, PyData.strOk z = true) (hne : 0 < ss.length) : RO w 20 184 [.ref l] (fun h => h.IsList l (List.toArray us)) (IsL (aboveS ss)) := by
  unfold RO
  k_fill
  intro mean mg mb dp un gd cn cs a ccd cl outer A₀ base h₀ L m s Q E B F X T hk hd hu hpre hret
  refine wpAny_call ?_
  k_dflt walk_at "ro in"
  have hl : s.heap.IsList l (List.toArray us) := hpre
  have hn : ss.length ≤ 60000 := Nat.le_trans (wt_len ss) hw
  have hb : ∀ z ∈ ss, z.length ≤ 60000 := fun z hz => by have := wt_mem hz; omega
  k_steps
  · have hq : (Txt.join (Str.ofString "") ss.dropLast == Str.ofString "") = true := by assumption
    refine ro_endL2 hret (by assumption) (by assumption) (by assumption) (by k_mem) (by walk_at "strs") ?_
    rw [aboveS, if_pos (eq_of_beq hq)]
  · have hq : (Txt.join (Str.ofString "") ss.dropLast == Str.ofString "") = false := by assumption
    have hq' : stripE ss.dropLast ≠ [] := fun e => by rw [join_empty e] at hq; simp at hq
    have ha : aboveS ss = stripE ss.dropLast := by rw [aboveS, if_neg (fun e => by rw [e] at hq; simp at hq)]
    unfold Stop
    rename Fr _ _ _ _ => F5
    rename News _ _ _ _ => N5
    refine While_inv2 (J := fun n m nx => ∃ (D : Addr) (vs : List Value) (ts : List Str) (c : Nat), m (Str.ofString "front") = some (.ref D) ∧ nx = [(D, listOf (List.toArray vs) c)] ∧ StrsAre vs ts ∧ ts.length = n ∧ wt ts ≤ 60000 ∧ stripE ts = stripE ss.dropLast) (n₀ := ss.dropLast.length) F5 N5 ⟨_, _, _, 0, rfl, rfl, by assumption, rfl, by walk_at "weighs", rfl⟩ ?_
    rintro n m₁ nx h₁ tk₁ F₁ N₁ ⟨D, vs, ts, c, e1, rfl, hS1, e3, e4, e5⟩
    have F₂ := fr_at [(Str.ofString "front", .ref D)] F₁ (by simp [e1])
    have hpos : 0 < ts.length := stripE_pos (by rw [e5]; exact hq')
    have hn2 : ts.length ≤ 60000 := Nat.le_trans (wt_len ts) e4
    have hb2 : ∀ z ∈ ts, z.length ≤ 60000 := fun z hz => by have := wt_mem hz; omega
    clear F₁ F5 N5
    k_steps
    · have hq2 : (ts.getD ((-1 + (ts.length : Int))).toNat Str.empty == Str.ofString "") = true := by assumption
      rw [show ∀ n : Nat, (-1 + (n : Int)).toNat = n - 1 from fun n => by omega] at hq2
      refine ⟨_, _, _, _, n - 1, rfl, by assumption, news_head (by assumption), by omega, _, _, _, _, rfl, rfl, by assumption, ?_, ?_, ?_⟩
      · rw [List.length_dropLast, e3]
      · exact Nat.le_trans (wt_init _) e4
      · rw [stripE_init (eq_of_beq hq2) hpos, e5]
    · have hq2 : (ts.getD ((-1 + (ts.length : Int))).toNat Str.empty == Str.ofString "") = false := by assumption
      rw [show ∀ n : Nat, (-1 + (n : Int)).toNat = n - 1 from fun n => by omega] at hq2
      refine ro_endL2 hret (by assumption) (by assumption) (by assumption) (by k_mem) (by walk_at "strs") ?_
      rw [ha, ← e5, stripE_last (by intro e; rw [e] at hq2; simp at hq2) hpos]
end
section
set_option maxRecDepth 100000
set_option maxHeartbeats 8000000
set_option linter.unusedVariables false
theorem fresh69 : True := by
  w_top off
  trivial
local macro_rules | `(tactic| kt_len) => `(tactic| exact len_getD (by assumption) _)
local macro_rules | `(tactic| walk_at "cut") => `(tactic| first | exact sl_init (by walk_at "strs") | exact sl_last (by walk_at "strs") | exact sl_upto (by walk_at "strs") (by first | decide | omega) | exact sl_from (by walk_at "strs") (by first | decide | omega))
local macro_rules | `(tactic| walk_at "call ref") => `(tactic| (k_here; k_dflt (first
  | (refine' ro_useI (root_ok _ _ _ _ ?hs ?hn ?he) ?k1 ?k2 ?k3 ?k4 ?k5 ?kK ?kd ?ku ?kp ?_; (case kp => kmk_list); (case hs => walk_at "strs"); (case hn => walk_at "fits"); (case he => walk_at "fits"); (case k1 => k_asm); (case k2 => k_asm); (case k3 => k_asm); (case k4 => k_asm); (case k5 => k_asm); (case kK => first | exact rfl | assumption); (case kd => ktr_room); (case ku => ktr_units); intro t' h' tk' F' N'; (try k_sweep); (try dsimp only); (try k_fold)))))

theorem words_T8_0 : True := by
  w_top off
  k_with_none
  k_with "exec While" => (k_here; (with_reducible show wpAny _ _ (exec (Stmt.While _ _ _ _) _) _ _ _); refine stop_out ?_)
  k_with "strs" => first | with_reducible assumption | exact StrsAre.nil | exact StrsAre.cons _ _ (by walk_at "strs")
  k_with "fits" => ((try rw [strs_len (by walk_at "strs")]); (try simp only [sizeLine_eq, List.length_append, List.length_cons, List.length_drop, List.length_dropLast, List.length_take, List.length_nil, List.length_reverse, List.length_replicate, Int.toNat_natCast]); omega)
  k_with "subscriptTail Name Slice ref ref" => (k_here; (with_reducible show wpAny _ _ (subscriptTail _ (PySem.Expr.Slice _ _ none _) (Value.ref _) (Value.ref _)) _ _ _); k_dflt (refine' strs_slice (by k_asm) (by k_asm) (by kmk_list) (by kmk_part) (by kmk_part) (by walk_at "cut") ?_ (by with_unfolding_all rfl) (by kmk_pure) (by walk_at "fits")); intro D₉ ws₉ h₉ F₉ N₉ l1₉ hS₉; (try k_lt l1₉); (try k_sweep))
  k_with "binaryOp Add ref ref" => (k_here; (with_reducible show wpAny _ _ (binaryOp _ (Value.ref _) (Value.ref _)) _ _ _); k_dflt (refine' strs_cat (by k_asm) (by k_asm) (by kmk_list) (by kmk_list) (by walk_at "strs") (by walk_at "strs") ?_ (by walk_at "fits")); intro D₉ ws₉ h₉ F₉ N₉ l1₉ hS₉; (try k_lt l1₉); (try k_sweep))
  k_with "oks" => first | with_reducible assumption | decide +kernel | exact fun z hz => (by assumption : ∀ z ∈ _, PyData.strOk z = true) z (List.mem_of_mem_take hz) | exact fun z hz => (by assumption : ∀ z ∈ _, PyData.strOk z = true) z (List.mem_of_mem_drop hz)
  k_with "weighs" => first | omega | ((try simp only [wt_append, wt_cons, wt_nil]); omega) | (refine Nat.le_trans (wt_init _) ?_; walk_at "weighs") | (refine Nat.le_trans (wt_drop _ _) ?_; walk_at "weighs") | (refine Nat.le_trans (wt_take _ _) ?_; walk_at "weighs")
  k_with "call builtin:str.join" => (k_here; (with_reducible show wpAny _ _ (call (Value.builtin _) [Value.str _ _, Value.ref _]) _ _ _); k_dflt (refine' join_wt (by kmk_list) (by walk_at "strs") (by decide +kernel) (by walk_at "weighs") ?_); intro t₉ tk₉)
  k_with "subscriptTail Name Slice ref ref" => (k_here; (with_reducible show wpAny _ _ (subscriptTail _ (PySem.Expr.Slice none none (some _) _) (Value.ref _) (Value.ref _)) _ _ _); k_dflt (refine' strs_back (by k_asm) (by k_asm) (by kmk_list) (by kmk_part) (by walk_at "strs") ?_ (by with_unfolding_all rfl) (by kmk_pure) (by walk_at "fits")); intro D₉ ws₉ h₉ F₉ N₉ l1₉ hS₉; (try k_lt l1₉); (try k_sweep))
  k_with "binaryOp Mult ref int" => (k_here; (with_reducible show wpAny _ _ (binaryOp Operator.Mult (Value.ref _) (Value.int _ _)) _ _ _); k_dflt (refine' strs_rep (by k_asm) (by k_asm) (by k_mem) (by first | omega | decide) (by first | omega | decide) ?_); intro D₉ ws₉ h₉ F₉ N₉ l1₉ hS₉; (try k_lt l1₉); (try k_sweep))
  k_with "truthy ref" => (k_here; (with_reducible show wpAny _ _ (truthy (Value.ref _)) _ _ _); k_dflt (refine' strs_truth (by kmk_list) (by walk_at "strs") (by walk_at "fits") ?_); intro tk₉)
  k_with "exec For" => (k_here; (with_reducible show wpAny _ _ (exec (Stmt.For (PySem.Expr.Name _ _) _ _ _ _) _) _ _ _); (rename Fr _ _ _ _ => lF₉); (with_unfolding_all refine' For_invVF lF₉ (by exact rfl) (by exact rfl) ?_; k_whole))
  trivial
theorem straight_ok (w : World) (l : Addr) (us : List Value) (ss : List Str) (hs : StrsAre us ss) (hw : wt ss ≤ 60000) (hok : ∀ z ∈ ss, PyData.strOk z = true) (hne : 0 < ss.length) : RO w 20 177 [.ref l] (fun h => h.IsList l (List.toArray us)) (IsL (straightS ss)) := by
  unfold RO
  k_fill
  intro mean mg mb dp un gd cn cs a ccd cl outer A₀ base h₀ L m s Q E B F X T hk hd hu hpre hret
  refine wpAny_call ?_
  k_dflt walk_at "ro in"
  have hl : s.heap.IsList l (List.toArray us) := hpre
  have hn : ss.length ≤ 60000 := Nat.le_trans (wt_len ss) hw
  have hb : ∀ z ∈ ss, z.length ≤ 60000 := fun z hz => by have := wt_mem hz; omega
  k_steps
  unfold Stop
  rename Fr _ _ _ _ => F5
  rename News _ _ _ _ => N5
  rename StrsAre _ (List.reverse _) => hrev
  obtain ⟨K0, hK0, N0⟩ := pick_led (x := Str.ofString "kept") (o := listOf (List.toArray []) 0) F5 N5 rfl (by k_mem)
  have hlen := strs_len hrev
  refine iter_vals (fun i m nx => ∃ (D : Addr) (vs : List Value) (c : Nat) (t t2 : Tok), m (Str.ofString "slashes") = some (.int (rootS ss) t) ∧ m (Str.ofString "kept") = some (.ref D) ∧ m (Str.ofString "debts") = some (.int (((ss.reverse.take i).foldl strStep ([], 0)).2 : Nat) t2) ∧ nx = [(D, listOf (List.toArray vs) c)] ∧ StrsAre vs ((ss.reverse.take i).foldl strStep ([], 0)).1)
    (by rfl) (News.isList N5 (by k_mem)) (N5 _ (by k_mem)).2.1 F5 N0 ⟨K0, _, _, _, _, rfl, hK0, rfl, rfl, StrsAre.nil⟩ ?_ ?_
  · rintro i v m₁ news₁ h tk own I hv hoff ⟨oI, hI⟩ hlI ⟨D, vs, c, t, t2, e1, e2, e3, rfl, hS⟩ F₁ N₁
    obtain ⟨p, tp, rfl, hp⟩ := strs_get hrev hv
    generalize hst : (ss.reverse.take i).foldl strStep ([], 0) = st at e3 hS
    have hnext := take_fold ss.reverse i p hp ([], 0)
    rw [hst] at hnext
    have hwt : wt st.1 + st.2 ≤ wt ss := by
      have h1 := fold_wt (ss.reverse.take i) ([], 0)
      have h2 := wt_take ss.reverse i
      have h3 := wt_rev ss
      rw [hst] at h1
      simp only [wt_nil] at h1
      omega
    rw [hnext]
    have F₂ := fr_at2 [(Str.ofString "slashes", .int (rootS ss) t), (Str.ofString "kept", .ref D), (Str.ofString "debts", .int (st.2 : Nat) t2)] F₁ (by simp [e1, e2, e3])
    simp only [List.cons_append, List.nil_append] at N₁
    have hl1 : st.1.length ≤ 60000 := by have := wt_len st.1; omega
    have hps : p.length ≤ 60000 := hb p (List.mem_reverse.mp (List.mem_of_getElem? hp))
    clear F₁ F5 N5 N0
    k_steps
    · have hq : (p == Str.ofString "..") = true := by assumption
      have hs9 : strStep st p = (st.1, st.2 + 1) := by rw [strStep, if_pos (eq_of_beq hq)]
      rw [hs9]
      exact VEnd.intro [(D, _)] (by assumption) (by assumption) (by k_allIn) (by intro p hp; k_ownIn) (fun q hq => by rw [List.mem_singleton.mp hq]; exact hoff _ (List.mem_singleton.mpr rfl)) ⟨D, vs, c, _, _, rfl, rfl, rfl, rfl, hS⟩
    · have hq : (p == Str.ofString "..") = false := by assumption
      have hq2 : ([Str.ofString "", Str.ofString "."].any fun x => x == p) = true := by assumption
      have hs9 : strStep st p = st := by
        rw [strStep, if_neg (beq_f hq), if_pos (any2_t hq2)]
      rw [hs9]
      exact VEnd.intro [(D, _)] (by assumption) (by assumption) (by k_allIn) (by intro p hp; k_ownIn) (fun q hq => by rw [List.mem_singleton.mp hq]; exact hoff _ (List.mem_singleton.mpr rfl)) ⟨D, vs, c, _, _, rfl, rfl, rfl, rfl, hS⟩
    · have hq : (p == Str.ofString "..") = false := by assumption
      have hq2 : ([Str.ofString "", Str.ofString "."].any fun x => x == p) = false := by assumption
      have hq3 : 0 < (st.2 : Int) := by assumption
      have hs9 : strStep st p = (st.1, st.2 - 1) := by
        rw [strStep, if_neg (beq_f hq), if_neg (any2_f hq2), if_pos (by omega)]
      rw [hs9]
      exact VEnd.intro [(D, _)] (by assumption) (by assumption) (by k_allIn) (by intro p hp; k_ownIn) (fun q hq => by rw [List.mem_singleton.mp hq]; exact hoff _ (List.mem_singleton.mpr rfl)) ⟨D, vs, c, _, _, rfl, rfl, (by rw [show ((st.2 - 1 : Nat) : Int) = (st.2 : Int) - 1 by omega]; rfl), rfl, hS⟩
    · have hq : (p == Str.ofString "..") = false := by assumption
      have hq2 : ([Str.ofString "", Str.ofString "."].any fun x => x == p) = false := by assumption
      have hq3 : ¬ 0 < (st.2 : Int) := by assumption
      have hs9 : strStep st p = (p :: st.1, st.2) := by
        rw [strStep, if_neg (beq_f hq), if_neg (any2_f hq2), if_neg (by omega)]
      rw [hs9]
      rename (_ ∧ _ ∧ _ ∧ _ ∧ AllLt _ _) => hl9
      exact VEnd.intro [(_, _)] (by assumption) (by assumption) (by k_allIn) (by intro p hp; k_ownIn) (fun q hq => by rw [List.mem_singleton.mp hq]; exact Nat.ne_of_gt (allLt_mem hl9.2.2.2.2 _ hI)) ⟨_, _, _, _, _, rfl, rfl, rfl, rfl, by assumption⟩
  · rintro m₁ news₁ h tk ⟨D, vs, c, t, t2, e1, e2, e3, rfl, hS⟩ F₁ N₁
    rw [hlen, List.take_length] at e3 hS
    have hwt : wt (strEnd ss).1 + (strEnd ss).2 ≤ wt ss := by
      have h1 := fold_wt ss.reverse ([], 0)
      have h3 := wt_rev ss
      simp only [wt_nil] at h1
      show wt (ss.reverse.foldl strStep ([], 0)).1 + (ss.reverse.foldl strStep ([], 0)).2 ≤ _
      omega
    have hr : (strEnd ss) = ss.reverse.foldl strStep ([], 0) := rfl
    rw [← hr] at e3 hS
    generalize hst : strEnd ss = st at e3 hS hwt
    have hl1 : st.1.length ≤ 60000 := by have := wt_len st.1; omega
    have hd1 : st.2 ≤ 60000 := by omega
    have hr1 : rootS ss ≤ 60000 := by have := rootS_le ss; omega
    have F₂ := fr_at [(Str.ofString "slashes", .int (rootS ss) t), (Str.ofString "kept", .ref D), (Str.ofString "debts", .int (st.2 : Nat) t2)] F₁ (by simp [e1, e2, e3])
    clear F₁ F5 N5 N0
    k_steps
    all_goals (refine ro_endL2 hret (by assumption) (by assumption) (by assumption) (by k_mem) (by walk_at "strs") ?_; rw [straightS, hst])
    all_goals (simp only [Int.toNat_natCast, Int.toNat_one] at *)
    · rw [if_pos (by omega), if_neg (by assumption)]
    · rw [if_pos (by omega), if_pos (by apply Classical.byContradiction; assumption)]
    · rw [if_neg (by omega), if_pos (by omega), if_neg (by assumption)]
    · rw [if_neg (by omega), if_pos (by omega), if_pos (by apply Classical.byContradiction; assumption)]
    · rw [if_neg (by omega), if_neg (by omega), if_neg (by assumption)]
    · rw [if_neg (by omega), if_neg (by omega), if_pos (by apply Classical.byContradiction; assumption)]
end
section
set_option maxRecDepth 100000
set_option maxHeartbeats 8000000
set_option linter.unusedVariables false
theorem fresh70 : True := by
  w_top off
  trivial
local macro_rules | `(tactic| k_ne) => `(tactic| (refine neN ?_; (try dsimp only); first | with_reducible assumption | (with_reducible refine Ne.symm ?hs9; with_reducible assumption) | exact Nat.ne_of_lt (by with_reducible assumption) | exact Nat.ne_of_gt (by with_reducible assumption) | (simp only [ne_eq, *, not_false_eq_true]; done) | (with_reducible refine Ne.symm ?hs9; simp only [ne_eq, *, not_false_eq_true]; done) | exact Nat.ne_of_lt (by simp only [*]; done) | exact Nat.ne_of_gt (by simp only [*]; done) | ((repeat (with_reducible rename _ ∧ _ => hc9; obtain ⟨_, _⟩ := hc9)); (repeat (with_reducible rename _ ≠ _ => hc9; clear hc9)); omega)))
local macro_rules | `(tactic| lcg_src) => `(tactic| k_mem)
local macro_rules | `(tactic| walk_at "call ref") => `(tactic| (k_here; k_dflt (first
  | (refine' ro_useI (root_ok _ _ _ _ ?hs ?hn ?he) ?k1 ?k2 ?k3 ?k4 ?k5 ?kK ?kd ?ku ?kp ?_; (case kp => kmk_list); (case hs => walk_at "strs"); (case hn => walk_at "fits"); (case he => walk_at "fits"); (case k1 => k_asm); (case k2 => k_asm); (case k3 => k_asm); (case k4 => k_asm); (case k5 => k_asm); (case kK => first | exact rfl | assumption); (case kd => ktr_room); (case ku => ktr_units); intro t' h' tk' F' N'; (try k_sweep); (try dsimp only); (try k_fold)))))

theorem words_T9_0 : True := by
  w_top off
  k_with_none
  k_with "steps" => repeat' ((fail_if_success (with_reducible show VPost _ _ _ _ _ _ _ _ _)); (fail_if_success (with_reducible show WhileStep2 _ _ _ _ _ _ _ _)); (fail_if_success (with_reducible show Stop _)); first | (k_unfold; (try dsimp only)) | walk1 | (dsimp only; walk1) | (leave1; (try dsimp only)) | fail "no step")
  k_with "exec While" => (k_here; (with_reducible show wpAny _ _ (exec (Stmt.While _ _ _ _) _) _ _ _); refine stop_out ?_)
  k_with "exec While BoolOp" => (k_here; (with_reducible show wpAny _ _ (exec (Stmt.While _ _ _ _) _) _ _ _); refine stop_out ?_)
  k_with "exec While BoolOp cons nil" => (k_here; (with_reducible show wpAny _ _ (exec (Stmt.While _ _ _ _) _) _ _ _); refine stop_out ?_)
  k_with "exec While Compare cons nil" => (k_here; (with_reducible show wpAny _ _ (exec (Stmt.While _ _ _ _) _) _ _ _); refine stop_out ?_)
  k_with "len" => first | with_reducible assumption | (with_reducible refine' len_getD (by assumption) _) | (with_reducible refine' len_join (by assumption)) | (with_reducible refine' KT.len_app (by walk_at "len") (by walk_at "len")) | ((with_reducible show (PySem.Str.ofString _).length ≤ _); exact Nat.le_refl _)
  k_with "binaryOp Add str str" => (k_here; (with_reducible show wpAny _ _ (binaryOp Operator.Add (Value.str _ _) (Value.str _ _)) _ _ _); (refine' KXadd.add (by walk_at "len") (by walk_at "len") (by exact Nat.le_of_ble_eq_true rfl) ?_); intro t₉ tk₉ hl₉)
  k_with "truthy str" => (k_here; (with_reducible show wpAny _ _ (PySem.truthy (Value.str _ _)) _ _ _); (refine' truthT (by walk_at "len") (by exact Nat.le_of_ble_eq_true rfl) ?_); intro tk₉)
  k_with "strs" => first | with_reducible assumption | exact StrsAre.nil | exact StrsAre.cons _ _ (by walk_at "strs")
  k_with "fits" => ((try rw [strs_len (by walk_at "strs")]); (try simp only [sizeLine_eq, List.length_append, List.length_cons, List.length_drop, List.length_dropLast, List.length_take, List.length_nil, List.length_reverse, List.length_replicate, Int.toNat_natCast]); omega)
  k_with "subscriptTail Name Slice ref ref" => (k_here; (with_reducible show wpAny _ _ (subscriptTail _ (PySem.Expr.Slice _ _ none _) (Value.ref _) (Value.ref _)) _ _ _); k_dflt (refine' strs_slice (by k_asm) (by k_asm) (by kmk_list) (by kmk_part) (by kmk_part) (by walk_at "cut") ?_ (by with_unfolding_all rfl) (by kmk_pure) (by walk_at "fits")); intro D₉ ws₉ h₉ F₉ N₉ l1₉ hS₉; (try k_lt l1₉); (try k_sweep))
  k_with "binaryOp Add ref ref" => (k_here; (with_reducible show wpAny _ _ (binaryOp _ (Value.ref _) (Value.ref _)) _ _ _); k_dflt (refine' strs_cat (by k_asm) (by k_asm) (by kmk_list) (by kmk_list) (by walk_at "strs") (by walk_at "strs") ?_ (by walk_at "fits")); intro D₉ ws₉ h₉ F₉ N₉ l1₉ hS₉; (try k_lt l1₉); (try k_sweep))
  k_with "oks" => first | with_reducible assumption | decide +kernel | exact fun z hz => (by assumption : ∀ z ∈ _, PyData.strOk z = true) z (List.mem_of_mem_take hz) | exact fun z hz => (by assumption : ∀ z ∈ _, PyData.strOk z = true) z (List.mem_of_mem_drop hz)
  k_with "weighs" => first | omega | ((try simp only [wt_append, wt_cons, wt_nil]); omega) | (refine Nat.le_trans (wt_init _) ?_; walk_at "weighs") | (refine Nat.le_trans (wt_drop _ _) ?_; walk_at "weighs") | (refine Nat.le_trans (wt_take _ _) ?_; walk_at "weighs")
  k_with "call builtin:str.join" => (k_here; (with_reducible show wpAny _ _ (call (Value.builtin _) [Value.str _ _, Value.ref _]) _ _ _); k_dflt (refine' join_wt (by kmk_list) (by walk_at "strs") (by decide +kernel) (by walk_at "weighs") ?_); intro t₉ tk₉)
  k_with "subscriptTail Name Slice ref ref" => (k_here; (with_reducible show wpAny _ _ (subscriptTail _ (PySem.Expr.Slice none none (some _) _) (Value.ref _) (Value.ref _)) _ _ _); k_dflt (refine' strs_back (by k_asm) (by k_asm) (by kmk_list) (by kmk_part) (by walk_at "strs") ?_ (by with_unfolding_all rfl) (by kmk_pure) (by walk_at "fits")); intro D₉ ws₉ h₉ F₉ N₉ l1₉ hS₉; (try k_lt l1₉); (try k_sweep))
  k_with "binaryOp Mult ref int" => (k_here; (with_reducible show wpAny _ _ (binaryOp Operator.Mult (Value.ref _) (Value.int _ _)) _ _ _); k_dflt (refine' strs_rep (by k_asm) (by k_asm) (by k_mem) (by first | omega | decide) (by first | omega | decide) ?_); intro D₉ ws₉ h₉ F₉ N₉ l1₉ hS₉; (try k_lt l1₉); (try k_sweep))
  k_with "truthy ref" => (k_here; (with_reducible show wpAny _ _ (truthy (Value.ref _)) _ _ _); k_dflt (refine' strs_truth (by kmk_list) (by walk_at "strs") (by walk_at "fits") ?_); intro tk₉)
  k_with "subscriptTail Subscript Name Constant Slice ref ref" => (k_here; (with_reducible show wpAny _ _ (subscriptTail _ (PySem.Expr.Slice _ _ none _) (Value.ref _) (Value.ref _)) _ _ _); k_dflt (refine' strs_slice (by k_asm) (by k_asm) (by kmk_list) (by kmk_part) (by kmk_part) (by walk_at "cut") ?_ (by with_unfolding_all rfl) (by kmk_pure) (by walk_at "fits")); intro D₉ ws₉ h₉ F₉ N₉ l1₉ hS₉; (try k_lt l1₉); (try k_sweep))
  k_with "subscriptTail Subscript Name Constant Slice ref ref" => (k_here; (with_reducible show wpAny _ _ (subscriptTail _ (PySem.Expr.Slice none none (some _) _) (Value.ref _) (Value.ref _)) _ _ _); k_dflt (refine' strs_back (by k_asm) (by k_asm) (by kmk_list) (by kmk_part) (by walk_at "strs") ?_ (by with_unfolding_all rfl) (by kmk_pure) (by walk_at "fits")); intro D₉ ws₉ h₉ F₉ N₉ l1₉ hS₉; (try k_lt l1₉); (try k_sweep))
  k_with "call builtin:str.split" => (k_here; (with_reducible show wpAny _ _ (call (Value.builtin "str.split") [Value.str _ _, Value.str _ _]) _ _ _); k_dflt (refine' strs_split (by k_asm) (by k_asm) (by decide +kernel) ?_ (by (rw [sizeLine_eq]; omega))); intro D₉ ws₉ h₉ k₉ F₉ N₉ l1₉ hS₉; (try k_lt l1₉); (try k_sweep))
  k_with "call builtin:list.append" => (k_here; (with_reducible show wpAny _ _ (call (Value.builtin "list.append") [Value.ref _, Value.str _ _]) _ _ _); k_dflt (refine' strs_append2 (by k_asm) (by k_asm) (by k_upd) (by walk_at "strs") (by walk_at "fits") ?_); intro h₉ F₉ N₉ hS₉; (try k_sweep))
  k_with "call builtin:list.pop" => (k_here; (with_reducible show wpAny _ _ (call (Value.builtin "list.pop") [Value.ref _]) _ _ _); k_dflt (refine' strs_pop2 (by k_asm) (by k_asm) (by k_upd) (by walk_at "strs") (by first | assumption | omega | (apply List.length_pos_iff.mpr; assumption)) (by walk_at "fits") ?_); intro h₉ t₉ F₉ N₉ hS₉; (try k_sweep))
  k_with "subscriptTail Name UnaryOp ref int" => (k_here; (with_reducible show wpAny _ _ (subscriptTail _ _ (Value.ref _) (Value.int _ _)) _ _ _); k_dflt (refine' strs_item_last (by kmk_list) (by walk_at "strs") (by walk_at "pos") ?_); intro t₉)
  k_with "pos" => first | assumption | ((try simp only [List.length_append, List.length_cons, List.length_drop, List.length_nil]); omega)
  k_with "subscriptTail Name Constant ref int" => (k_here; (with_reducible show wpAny _ _ (subscriptTail _ _ (Value.ref _) (Value.int _ _)) _ _ _); k_dflt (refine' lit_item (vs := [_, _]) (by exact News.isList (by k_asm) (by k_mem)) (by decide) (by decide) (by rfl) ?_; k_whole))
  k_with "subscriptTail Name Constant ref int" => (k_here; (with_reducible show wpAny _ _ (subscriptTail _ _ (Value.ref _) (Value.int _ _)) _ _ _); k_dflt (refine' strs_item (by kmk_list) (by walk_at "strs") (by decide) (by decide) (by omega) ?_); intro t₉)
  k_with "subscriptTail Subscript Name Constant Constant ref int" => walk_at "subscriptTail Name Constant ref int"
  k_with "call builtin:len" => (k_here; (with_reducible show wpAny _ _ (call (Value.builtin "len") [Value.ref _]) _ _ _); k_dflt (refine' strs_lenR (by kmk_list) (by walk_at "strs") (by walk_at "fits") ?_); intro t₉ tk₉)
  k_with "call builtin:len cons nil [ref ]" => walk_at "call builtin:len"
  k_with "exec For" => (k_here; (with_reducible show wpAny _ _ (exec (Stmt.For (PySem.Expr.Name _ _) _ _ _ _) _) _ _ _); (rename Fr _ _ _ _ => lF₉); (with_unfolding_all refine' For_invVF lF₉ (by exact rfl) (by exact rfl) ?_; k_whole))
  k_with "exec Assign cons ListComp" => (k_here; (with_reducible show wpAny _ _ (exec (Stmt.Assign _ (PySem.Expr.ListComp _ [⟨_, PySem.Expr.Tuple _ _ _, _, _⟩] _ _) _) _) _ _ _); k_dflt (refine Assign_ListComp_tup (by k_asm) (by rfl) (by with_unfolding_all rfl) (by with_unfolding_all rfl) (by decide) (by rfl) (by decide) (by rfl) (by rfl) (by rfl) ?_))
  k_with "TupSrc" => (k_here; k_dflt (refine TupSrc.intro (by rfl) (by k_asm) (by k_asm) (by k_mem) (by first | size_fits | exact Nat.le_of_ble_eq_true rfl) ?_); intro g₉; lcg_lit)
  k_with "CompRest" => (with_unfolding_all (refine LCg.CompRest.succ ?_); intro v₉ I₉ oI₉ C₉ oC₉ D₉ m₉ h₉ tk₉ E₉ hv₉ hC₉ hx₉ F₉ N₉ off₉ ne₉; (have hv9₉ := Option.some.inj hv₉); subst hv9₉; (try simp only [LCg.Off3, and_true] at off₉))
  k_with "eval ListComp" => (k_here; k_dflt (refine LCt.ListComp_T (F₀ := by k_asm) (by with_unfolding_all rfl) (by decide) (by rfl) (by decide) (by rfl) ?_))
  k_with "CompEnd" => first | (refine LCg.CompEnd.intro (by assumption) (by assumption) _ (by intro p₉ hp₉; k_ownIn) (by assumption) (by lcg_src) ⟨rfl, ?_⟩; walk_at "filt end") | lcg_end
  k_with "filt end" => first | exact ⟨notin_t (by assumption), _, rfl⟩ | exact notin_f (by assumption)
  k_with "CompSrcT" => (k_here; k_dflt (refine LCt.CompSrcT.base (by rfl) (by k_asm) (by k_asm) (by assumption) (by first | (rw [List.size_toArray]; walk_at "fits") | size_fits) ?_); intro g₉; (refine filt_rest (fun p => !(p == Str.ofString "" || p == Str.ofString ".")) (by walk_at "strs") (fun p₉ t₉ I₉ oI₉ C₉ oC₉ D₉ m₉ ys₉ h₉ tk₉ E₉ hp₉ hC₉ hx₉ F₉ N₉ off₉ ne₉ => ?_) (fun ys₉ hys₉ => ?_)))
  trivial
theorem shared_ok (w : World) (l : Addr) (us : List Value) (ss : List Str) (l2 : Addr) (us2 : List Value) (ss2 : List Str) (hs : StrsAre us ss) (hw : wt ss ≤ 60000) (hok : ∀ z ∈ ss, PyData.strOk z = true) (hne : 0 < ss.length)(hs2 : StrsAre us2 ss2) (hw2 : wt ss2 ≤ 60000) (hok2 : ∀ z ∈ ss2, PyData.strOk z = true) (hne2 : 0 < ss2.length) : RO w 20 189 [.ref l, .ref l2] (fun h => h.IsList l (List.toArray us) ∧ h.IsList l2 (List.toArray us2)) (IsL (sharedS ss ss2)) := by
  unfold RO
  k_fill
  intro mean mg mb dp un gd cn cs a ccd cl outer A₀ base h₀ L m s Q E B F X T hk hd hu hpre hret
  refine wpAny_call ?_
  k_dflt walk_at "ro in"
  have hl : s.heap.IsList l (List.toArray us) := hpre.1
  have hn : ss.length ≤ 60000 := Nat.le_trans (wt_len ss) hw
  have hb : ∀ z ∈ ss, z.length ≤ 60000 := fun z hz => by have := wt_mem hz; omega
  have hl2 : s.heap.IsList l2 (List.toArray us2) := hpre.2
  have hn2 : ss2.length ≤ 60000 := Nat.le_trans (wt_len ss2) hw2
  have hb2 : ∀ z ∈ ss2, z.length ≤ 60000 := fun z hz => by have := wt_mem hz; omega
  walk_at "steps"
  unfold Stop
  rename Fr _ _ _ _ => F5
  rename News _ _ _ _ => N5
  rename StrsAre _ (List.filter _ ss) => hA
  rename StrsAre _ (List.filter _ ss2) => hB
  obtain ⟨Dr, D1, D2, y1, y2, hR0, N0, hA1, hB1⟩ := pick_rows (x := Str.ofString "rows") F5 N5 hA hB rfl (by k_mem) (by k_mem) (by k_mem)
  have hsA : solid ss = ss.filter fun p => !(p == Str.ofString "" || p == Str.ofString ".") := rfl
  have hsB : solid ss2 = ss2.filter fun p => !(p == Str.ofString "" || p == Str.ofString ".") := rfl
  have hwA : wt (solid ss) ≤ 60000 := Nat.le_trans (wt_filter _ _) hw
  have hwB : wt (solid ss2) ≤ 60000 := Nat.le_trans (wt_filter _ _) hw2
  have hoA : ∀ z ∈ solid ss, PyData.strOk z = true := fun z hz => hok z (List.mem_filter.mp hz).1
  have hoB : ∀ z ∈ solid ss2, PyData.strOk z = true := fun z hz => hok2 z (List.mem_filter.mp hz).1
  rw [← hsA] at hA1
  rw [← hsB] at hB1
  have hres : sharedS ss ss2 = List.replicate (if rootS ss < 1 then rootS ss else 1) (Str.ofString "") ++ (if cpre (solid ss) (solid ss2) = [] then [Str.ofString ""] else cpre (solid ss) (solid ss2)) := rfl
  generalize solid ss = a at *
  generalize solid ss2 = b at *
  have hnA : a.length ≤ 60000 := Nat.le_trans (wt_len a) hwA
  have hnB : b.length ≤ 60000 := Nat.le_trans (wt_len b) hwB
  refine While_inv2 (J := fun n m nx => ∃ (k : Nat) (t : Tok), m (Str.ofString "one") = some (.ref l) ∧ m (Str.ofString "rows") = some (.ref Dr) ∧ m (Str.ofString "size") = some (.int k t) ∧ nx = [(Dr, LCg.lst [.ref D1, .ref D2]), (D1, LCg.lst y1), (D2, LCg.lst y2)] ∧ k + n = a.length ∧ a.take k = b.take k) (n₀ := a.length) F5 N0 ⟨0, _, rfl, hR0, rfl, rfl, by omega, by simp⟩ ?_
  rintro n m₁ nx h₁ tk₁ F₁ N₁ ⟨k, t, e1, e2, e3, rfl, e4, e5⟩
  have F₂ := fr_at [(Str.ofString "one", .ref l), (Str.ofString "rows", .ref Dr), (Str.ofString "size", .int k t)] F₁ (by simp [e1, e2, e3])
  clear F₁ F5 N5 N0 hA hB
  have hm1 : (if 1 < ((rootS ss : Nat) : Int) then (1 : Int) else ((rootS ss : Nat) : Int)).toNat = if rootS ss < 1 then rootS ss else 1 := by
    split <;> split <;> omega
  have hk1 : ((k : Int) + 1).toNat = k + 1 := by omega
  walk_at "steps"
  · have hq : List.take ((k : Int) + 1).toNat a = List.take ((k : Int) + 1).toNat b := by assumption
    have hq2 : (k : Int) < (a.length : Int) := by assumption
    rename News (Shared.heap s) _ _ (_ :: _ :: _ :: _ :: _ :: []) => hN9
    refine ⟨_, _, _, _, n - 1, rfl, by assumption, news_sub hN9 (l := [_, _, _]) (by k_allIn), by omega, k + 1, _, rfl, rfl, rfl, rfl, by omega, ?_⟩
    rw [← hk1]; exact hq
  all_goals refine ro_endL2 hret (by assumption) (by assumption) (by assumption) (by k_mem) (by walk_at "strs") ?_
  all_goals (rw [hres, hm1]; (try rw [Int.toNat_natCast]))
  · have hq : ¬ (k : Int) < (a.length : Int) := by assumption
    have hc := cpre_take a b k e5 (by omega) (.inr (by omega))
    rw [hc]
    congr 1
    exact (if_neg (by rw [← Int.toNat_natCast k]; assumption)).symm
  · have hq : ¬ (k : Int) < (a.length : Int) := by assumption
    have hc := cpre_take a b k e5 (by omega) (.inr (by omega))
    rw [hc]
    congr 1
    exact (if_pos (by rw [← Int.toNat_natCast k]; apply Classical.byContradiction; assumption)).symm
  · have hq : ¬ List.take ((k : Int) + 1).toNat a = List.take ((k : Int) + 1).toNat b := by assumption
    rw [hk1] at hq
    have hc := cpre_take a b k e5 (by omega) (.inl hq)
    rw [hc]
    congr 1
    exact (if_neg (by rw [← Int.toNat_natCast k]; assumption)).symm
  · have hq : ¬ List.take ((k : Int) + 1).toNat a = List.take ((k : Int) + 1).toNat b := by assumption
    rw [hk1] at hq
    have hc := cpre_take a b k e5 (by omega) (.inl hq)
    rw [hc]
    congr 1
    exact (if_pos (by rw [← Int.toNat_natCast k]; apply Classical.byContradiction; assumption)).symm
end
section
set_option maxRecDepth 100000
set_option maxHeartbeats 8000000
theorem rs_use {w : World} {nn : Nat} {f : Addr} {vs : List Value} {news : List (Addr × Obj)} {x : Str} {mean : ExcName → Option Value} {mg mb : Str → Option Value} {dp un : Nat} {gd : Option (List Code)} {cn : Str} {cs : Scope} {a : Addr} {ccd : Value} {A₀ : Around} {base h₀ : Heap} {L : Addr} {m : Str → Option Value} {s : Shared} {Q E : Value → Shared → Prop} (C : RS w nn f vs news x)
    (B : Below A₀ base [] h₀) (XB : (hd.heap_1 w.params).In base) (TB : Top hd.view_39 (looseW hd.view_39 [Str.ofString "_safe_string"]) mean mg mb base) (F : Fr h₀ L s.heap m) (X : (hd.heap_1 w.params).In h₀) (N : News h₀ L s.heap news) (T : Top hd.view_39 (looseW hd.view_39 [Str.ofString "_safe_string"]) mean mg mb h₀) (hk : cs.kind = .function) (hd : dp + nn < recursionLimit) (hu : un + 8 * nn < cLine)
    (ret : ∀ t h' tk', Fr h₀ L h' m → News h₀ L h' news → Q (.str x t) { s with heap := h', toks := tk' }) :
    wpAny (model PySem.Challenge.rw_in0025_01.row.prog w) (ktrTop dp un gd cn cs L a ccd [] []) (call (.ref f) vs) Q E s :=
  C _ _ _ _ _ _ _ _ _ _ _ _ _ _ _ _ _ _ B XB TB F X N T hk hd hu ret
/-- the bound of a row's weight after i turns -/
def bd (i : Nat) : Nat := 40 + 60 * i
/-- what holds between two turns of the law's loop -/
def Jl (i : Nat) (m : Str → Option Value) (news : List (Addr × Obj)) : Prop := ∃ (lb lr : Addr) (ub ur : List Value) (cb cr : Nat) (be ro : List Str) (te tt : Tok), m (Str.ofString "before") = some (.ref lb) ∧ m (Str.ofString "row") = some (.ref lr) ∧ m (Str.ofString "earlier") = some (.str (rt be) te) ∧ m (Str.ofString "text") = some (.str (rt ro) tt) ∧ news = [(lb, listOf (List.toArray ub) cb), (lr, listOf (List.toArray ur) cr)] ∧ StrsAre ub be ∧ StrsAre ur ro ∧ Good (bd i) be ∧ Good (bd i) ro
theorem turn_end {h₀ : Heap} {L : Addr} {own led : List (Addr × Obj)} {I : Addr} {s₁ : Shared} {h' : Heap} {tk : Nat} {m' : Str → Option Value} {lr D : Addr} {ur us : List Value} {cr n : Nat} {ro fr : List Str} {tt t : Tok} {i : Nat} (F : Fr h₀ L h' m') (N : News h₀ L h' led)
    (e1 : m' (Str.ofString "before") = some (.ref lr)) (e2 : m' (Str.ofString "row") = some (.ref D)) (e3 : m' (Str.ofString "earlier") = some (.str (rt ro) tt)) (e4 : m' (Str.ofString "text") = some (.str (rt fr) t))
    (hm1 : (lr, listOf (List.toArray ur) cr) ∈ led) (hm2 : (D, listOf (List.toArray us) n) ∈ led) (ho : ∀ p ∈ own, p ∈ led) (h1 : lr ≠ I) (h2 : D ≠ I) (hS1 : StrsAre ur ro) (hS2 : StrsAre us fr) (G1 : Good (bd i) ro) (G2 : Good (bd i + 60) fr) : VEnd h₀ L (Jl (i + 1)) own I s₁ { s₁ with heap := h', toks := tk } := by
  have hb : bd (i + 1) = bd i + 60 := by unfold bd; omega
  refine VEnd.intro [(lr, listOf (List.toArray ur) cr), (D, listOf (List.toArray us) n)] F N (fun p hp => ?_) ho (fun p hp => ?_) ⟨lr, D, ur, us, cr, n, ro, fr, tt, t, e1, e2, e3, e4, rfl, hS1, hS2, ?_, ?_⟩
  · rcases List.mem_cons.mp hp with rfl | hp
    · exact hm1
    · rw [List.mem_singleton.mp hp]; exact hm2
  · rcases List.mem_cons.mp hp with rfl | hp
    · exact h1
    · rw [List.mem_singleton.mp hp]; exact h2
  · rw [hb]; exact G1.more (by omega)
  · rw [hb]; exact G2
theorem ne_own {D I : Addr} {oI : Obj} {led : List (Addr × Obj)} (h : ∀ p ∈ led, p.1 ≠ D) (hI : (I, oI) ∈ led) : D ≠ I := fun e => h _ hI e.symm
theorem ne_lt {D I : Addr} {oI : Obj} {led : List (Addr × Obj)} (h : AllLt D led) (hI : (I, oI) ∈ led) : D ≠ I := by
  induction led with
  | nil => exact absurd hI (List.not_mem_nil)
  | cons p r ih =>
    rcases List.mem_cons.mp hI with e | hI
    · have h1 : @LT.lt Nat _ p.1 D := h.1
      rw [← e] at h1
      exact Nat.ne_of_gt h1
    · exact ih h.2 hI
theorem ne_own2 {D I l : Addr} {oI : Obj} {led : List (Addr × Obj)} (h : ∀ p ∈ led, p.1 = D → D = l) (hI : (I, oI) ∈ led) (hl : l ≠ I) : D ≠ I := fun e => hl ((h _ hI e.symm) ▸ e)
/-- _safe_string upon the two texts, by commonpath, which has no answer -/
def RSL (w : World) (te tt : Tok) (be ro : List Str) (x : Str) : Prop := ∀ (l : Addr) (n : Nat) (news : List (Addr × Obj)), (l, listOf (List.toArray [.str (rt be) te, .str (rt ro) tt]) n) ∈ news → RS w 33 29 [.ref l, .str (rt ro) tt, .ref 156] news x
theorem rsl_get {w : World} {te tt : Tok} {be ro : List Str} {x : Str} (C : RSL w te tt be ro x) {l : Addr} {n : Nat} {news : List (Addr × Obj)} (hm : (l, listOf (List.toArray [.str (rt be) te, .str (rt ro) tt]) n) ∈ news) : RS w 33 29 [.ref l, .str (rt ro) tt, .ref 156] news x := C l n news hm
theorem rsl_of {w : World} {b c : Nat} {be ro : List Str} (g : Good b be) (hb : b ≤ 60000) (te tt : Tok) (g2 : Good c ro) (hc : c ≤ 60000) (h : decide (0 < rootS be) ≠ decide (0 < rootS ro)) : RSL w te tt be ro (rt (refusedS ro (Str.ofString "commonpath"))) :=
  fun l n news hm => c_common_bad w g hb te tt g2 hc l tt n news hm h
theorem eq_bool_known {prog : Program} {w : World} {A : Around} {E : Value → Shared → Prop} {s : Shared} {Q : Value → Shared → Prop} {a b c : Bool} (h : (a == b) = c) (q : Q (.bool c) s) : wpAny (model prog w) A (compareOp .Eq (.bool a) (.bool b)) Q E s := by
  subst h
  exact eq_bool q
theorem mod_known {prog : Program} {w : World} {A : Around} {E : Value → Shared → Prop} {s : Shared} {Q : Value → Shared → Prop} {a b d : Int} {t u : Tok} (hd : a.fmod b = d) (hb : b ≠ 0) (h : Q (.int d s.toks) { s with toks := s.toks + 1 }) : wpAny (model prog w) A (binaryOp .Mod (.int a t) (.int b u)) Q E s := by
  subst hd
  exact mod_int' hb h
theorem root_dec (a b : Nat) : ((decide (0 < (a : Int))) == (decide (0 < (b : Int)))) = (decide (0 < a) == decide (0 < b)) := by
  simp only [Int.natCast_pos]
theorem gp_one {p : Str} (h : 47 ∉ cd p) (h2 : PyData.strOk p = true) (h3 : p.length ≤ 3) : Good 10 [p] := Good.of (by simp) (fun q hq => by rw [List.mem_singleton.mp hq]; exact ⟨h, h2⟩) (by rw [wt_cons, wt_nil]; omega)
theorem gp_cons {p : Str} {b : Nat} {ps : List Str} (h : 47 ∉ cd p) (h2 : PyData.strOk p = true) (h3 : p.length + 1 + wt ps ≤ b) (g : Good b ps) : Good b (p :: ps) := Good.of (by simp) (fun q hq => by
    rcases List.mem_cons.mp hq with rfl | hq
    · exact ⟨h, h2⟩
    · exact g.pcs q hq) (by rw [wt_cons]; exact h3)
theorem start_J {h₀ h : Heap} {L : Addr} {m : Str → Option Value} {led : List (Addr × Obj)} {lb lr : Addr} {te tt t1 t2 t3 t4 t5 t6 : Tok} {cb cr : Nat} (_F : Fr h₀ L h m) (N : News h₀ L h led) (e1 : m (Str.ofString "before") = some (.ref lb)) (e2 : m (Str.ofString "row") = some (.ref lr)) (e3 : m (Str.ofString "earlier") = some (.str (Str.ofString "/a") te)) (e4 : m (Str.ofString "text") = some (.str (Str.ofString "/a//b") tt))
    (m1 : (lb, listOf (List.toArray [.str (Str.ofString "") t1, .str (Str.ofString "a") t2]) cb) ∈ led) (m2 : (lr, listOf (List.toArray [.str (Str.ofString "") t3, .str (Str.ofString "a") t4, .str (Str.ofString "") t5, .str (Str.ofString "b") t6]) cr) ∈ led) : ∃ news, News h₀ L h news ∧ Jl 0 m news := by
  have q1 : Str.ofString "/a" = rt [Str.ofString "", Str.ofString "a"] := by decide +kernel
  have q2 : Str.ofString "/a//b" = rt [Str.ofString "", Str.ofString "a", Str.ofString "", Str.ofString "b"] := by decide +kernel
  have g1 : Good (bd 0) [Str.ofString "", Str.ofString "a"] := gp_cons (by decide +kernel) (by decide +kernel) (by decide +kernel) ((gp_one (by decide +kernel) (by decide +kernel) (by decide +kernel)).more (by decide))
  have g2 : Good (bd 0) [Str.ofString "", Str.ofString "a", Str.ofString "", Str.ofString "b"] := gp_cons (by decide +kernel) (by decide +kernel) (by decide +kernel) (gp_cons (by decide +kernel) (by decide +kernel) (by decide +kernel) (gp_cons (by decide +kernel) (by decide +kernel) (by decide +kernel) ((gp_one (by decide +kernel) (by decide +kernel) (by decide +kernel)).more (by decide))))
  rw [q1] at e3
  rw [q2] at e4
  refine ⟨_, fun p hp => ?_, lb, lr, _, _, cb, cr, _, _, te, tt, e1, e2, e3, e4, rfl, StrsAre.cons _ t1 (StrsAre.cons _ t2 StrsAre.nil), StrsAre.cons _ t3 (StrsAre.cons _ t4 (StrsAre.cons _ t5 (StrsAre.cons _ t6 StrsAre.nil))), g1, g2⟩
  rcases List.mem_cons.mp hp with rfl | hp
  · exact N _ m1
  · rw [List.mem_singleton.mp hp]; exact N _ m2
end
section
set_option maxRecDepth 100000
set_option maxHeartbeats 8000000
/-- a statement's end, where the walk is cut: it runs on, and P holds of the heap -/
def CutEnd (s : Shared) (P : Heap → Prop) (f : Flow) (s' : Shared) : Prop := f = .next ∧ ∃ h' tk, s' = { s with heap := h', toks := tk } ∧ P h'
/-- what holds behind the law's branches: told and fresh stand -/
def Jc (h₀ : Heap) (L : Addr) (i : Nat) (own : List (Addr × Obj)) (I lr : Addr) (ur : List Value) (cr : Nat) (ro : List Str) (tt : Tok) (h' : Heap) : Prop :=
  ∃ (m' : Str → Option Value) (D : Addr) (us : List Value) (n : Nat) (ss : List Str) (t : Tok), Fr h₀ L h' m' ∧ News h₀ L h' ((D, listOf (List.toArray us) n) :: (lr, listOf (List.toArray ur) cr) :: own) ∧
    m' (Str.ofString "row") = some (.ref lr) ∧ m' (Str.ofString "text") = some (.str (rt ro) tt) ∧ m' (Str.ofString "told") = some (.str (rt ss) t) ∧ m' (Str.ofString "fresh") = some (.ref D) ∧ D ≠ I ∧ StrsAre us ss ∧ Good (bd i + 60) ss
theorem cut_law {M : Model} {A : Around} {c : Sem Flow} {Q : Flow → Shared → Prop} {E : Value → Shared → Prop} {s : Shared} {h₀ : Heap} {L : Addr} {m : Str → Option Value} (F : Fr h₀ L s.heap m) (i : Nat) (own : List (Addr × Obj)) (I lr : Addr) (ur : List Value) (cr : Nat) (ro : List Str) (tt : Tok)
    (hc : wpAny M A c (CutEnd s (Jc h₀ L i own I lr ur cr ro tt)) E s) (hq : ∀ h' tk, Jc h₀ L i own I lr ur cr ro tt h' → Q .next { s with heap := h', toks := tk }) : wpAny M A c Q E s :=
  wpAny_mono hc (fun f s' h => by
    obtain ⟨rfl, h', tk, rfl, hp⟩ := h
    exact hq h' tk hp) (fun _ _ h => h)
theorem cut_end {s : Shared} {h₀ : Heap} {L : Addr} {own led : List (Addr × Obj)} {I : Addr} {h' : Heap} {tk : Nat} {m' : Str → Option Value} {lr D : Addr} {ur us : List Value} {cr n : Nat} {ro fr : List Str} {tt t : Tok} {i : Nat} (F : Fr h₀ L h' m') (N : News h₀ L h' led)
    (e2 : m' (Str.ofString "row") = some (.ref lr)) (e4 : m' (Str.ofString "text") = some (.str (rt ro) tt)) (e5 : m' (Str.ofString "told") = some (.str (rt fr) t)) (e6 : m' (Str.ofString "fresh") = some (.ref D))
    (hm1 : (lr, listOf (List.toArray ur) cr) ∈ led) (hm2 : (D, listOf (List.toArray us) n) ∈ led) (ho : ∀ p ∈ own, p ∈ led) (h2 : D ≠ I) (hS2 : StrsAre us fr) (G2 : Good (bd i + 60) fr) : CutEnd s (Jc h₀ L i own I lr ur cr ro tt) .next { s with heap := h', toks := tk } := by
  refine ⟨rfl, h', tk, rfl, m', D, us, n, fr, t, F, fun p hp => ?_, e2, e4, e5, e6, h2, hS2, G2⟩
  rcases List.mem_cons.mp hp with rfl | hp
  · exact N _ hm2
  · rcases List.mem_cons.mp hp with rfl | hp
    · exact N _ hm1
    · exact N _ (ho p hp)
theorem fr_at1 {h₀ h : Heap} {L : Addr} {m : Str → Option Value} (ps : List (Str × Value)) (F : Fr h₀ L h m) (e : ∀ p ∈ ps, m p.1 = some p.2) : Fr h₀ L h (kstB m ps) := by
  have : kstB m ps = m := by
    funext z
    exact kstB_eq e fun _ => rfl
  rw [this]; exact F
/-- one of the law's eight parts, as it stands in the ledger -/
def PartIs (led : List (Addr × Obj)) (I : Addr) (v : Value) : Prop := ∃ (l : Addr) (us : List Value) (n : Nat) (p : List Str), v = .ref l ∧ (l, listOf (List.toArray us) n) ∈ led ∧ l ≠ I ∧ StrsAre us p ∧ Good 10 p
theorem all8 {P : Value → Prop} {a b c d e f g h : Value} (ha : P a) (hb : P b) (hc : P c) (hd : P d) (he : P e) (hf : P f) (hg : P g) (hh : P h) : ∀ v ∈ [a, b, c, d, e, f, g, h], P v := by
  simp only [List.mem_cons, List.not_mem_nil, or_false]
  rintro v (rfl | rfl | rfl | rfl | rfl | rfl | rfl | rfl) <;> assumption
theorem lit_part {prog : Program} {w : World} {A : Around} {E : Value → Shared → Prop} {s : Shared} {Q : Value → Shared → Prop} {value slice : Expr} {a : Addr} {d : Int} {u : Tok} {h₀ : Heap} {L : Addr} {led : List (Addr × Obj)} {I : Addr} {vs : List Value} {n : Nat} (N : News h₀ L s.heap led) (hm : (a, listOf (List.toArray vs) n) ∈ led)
    (hlen : vs.length = 8) (h0 : 0 ≤ d) (h8 : d < 8) (hP : ∀ v ∈ vs, PartIs led I v) (h : ∀ v, PartIs led I v → Q v s)
    (hs : subscripted slice false (.ref a) (.int d u) = operate [.ref a, .int d u] (getItem (.ref a) (.int d u)) := by with_unfolding_all rfl) :
    wpAny (model prog w) A (subscriptTail value slice (.ref a) (.int d u)) Q E s := by
  have hx : d.toNat < vs.length := by omega
  exact lit_item (v := vs[d.toNat]) (News.isList N hm) h0 (by omega) (List.getElem?_eq_getElem hx) (h _ (hP _ (List.getElem_mem hx))) hs
theorem news_add {h₀ h : Heap} {L : Addr} {led : List (Addr × Obj)} {p : Addr × Obj} (N : News h₀ L h led) (hm : p ∈ led) : News h₀ L h (p :: led) := fun q hq => by
  rcases List.mem_cons.mp hq with rfl | hq
  · exact N _ hm
  · exact N _ hq
theorem ite_then {c : Prop} [Decidable c] {a b : Prop} (h : c) (ha : a) : if c then a else b := by rw [if_pos h]; exact ha
theorem ite_else {c : Prop} [Decidable c] {a b : Prop} (h : ¬c) (hb : b) : if c then a else b := by rw [if_neg h]; exact hb
theorem mod8b (q : Int) : 0 ≤ q.fmod 8 ∧ q.fmod 8 < 8 := mod_bounds q 8 (by decide)
theorem mod7c (k : Int) : k.fmod 7 = 0 ∨ k.fmod 7 = 1 ∨ k.fmod 7 = 2 ∨ k.fmod 7 = 3 ∨ k.fmod 7 = 4 ∨ 5 ≤ k.fmod 7 := by
  have h := (mod_bounds k 7 (by decide)).1
  generalize k.fmod 7 = e at h
  by_cases h0 : e = 0
  · exact .inl h0
  by_cases h1 : e = 1
  · exact .inr (.inl h1)
  by_cases h2 : e = 2
  · exact .inr (.inr (.inl h2))
  by_cases h3 : e = 3
  · exact .inr (.inr (.inr (.inl h3)))
  by_cases h4 : e = 4
  · exact .inr (.inr (.inr (.inr (.inl h4))))
  exact .inr (.inr (.inr (.inr (.inr (by omega)))))
theorem gp_a : Good 10 [Str.ofString "a"] := gp_one (by decide +kernel) (by decide +kernel) (by decide +kernel)
theorem gp_up : Good 10 [Str.ofString ".."] := gp_one (by decide +kernel) (by decide +kernel) (by decide +kernel)
theorem gp_b1 : Good 10 [Str.ofString "b"] := gp_one (by decide +kernel) (by decide +kernel) (by decide +kernel)
theorem gp_b2 : Good 10 [Str.ofString "", Str.ofString "b"] := gp_cons (by decide +kernel) (by decide +kernel) (by decide +kernel) gp_b1
theorem gp_dot : Good 10 [Str.ofString "."] := gp_one (by decide +kernel) (by decide +kernel) (by decide +kernel)
theorem gp_ab : Good 10 [Str.ofString "a.b"] := gp_one (by decide +kernel) (by decide +kernel) (by decide +kernel)
theorem gp_e : Good 10 [Str.ofString ""] := gp_one (by decide +kernel) (by decide +kernel) (by decide +kernel)
theorem gp_b3 : Good 10 [Str.ofString "", Str.ofString "", Str.ofString "b"] := gp_cons (by decide +kernel) (by decide +kernel) (by decide +kernel) gp_b2
theorem gp_b4 : Good 10 [Str.ofString "", Str.ofString "", Str.ofString "", Str.ofString "b"] := gp_cons (by decide +kernel) (by decide +kernel) (by decide +kernel) gp_b3
theorem and2 {a0 a1 a2 : Prop} (h : a0 ∧ a1 ∧ a2) : a2 := h.2.2
theorem and3 {a0 a1 a2 a3 : Prop} (h : a0 ∧ a1 ∧ a2 ∧ a3) : a3 := h.2.2.2
theorem and4 {a0 a1 a2 a3 a4 : Prop} (h : a0 ∧ a1 ∧ a2 ∧ a3 ∧ a4) : a4 := h.2.2.2.2
theorem and5 {a0 a1 a2 a3 a4 a5 : Prop} (h : a0 ∧ a1 ∧ a2 ∧ a3 ∧ a4 ∧ a5) : a5 := h.2.2.2.2.2
theorem and6 {a0 a1 a2 a3 a4 a5 a6 : Prop} (h : a0 ∧ a1 ∧ a2 ∧ a3 ∧ a4 ∧ a5 ∧ a6) : a6 := h.2.2.2.2.2.2
theorem and7 {a0 a1 a2 a3 a4 a5 a6 a7 : Prop} (h : a0 ∧ a1 ∧ a2 ∧ a3 ∧ a4 ∧ a5 ∧ a6 ∧ a7) : a7 := h.2.2.2.2.2.2.2
theorem and8 {a0 a1 a2 a3 a4 a5 a6 a7 a8 : Prop} (h : a0 ∧ a1 ∧ a2 ∧ a3 ∧ a4 ∧ a5 ∧ a6 ∧ a7 ∧ a8) : a8 := h.2.2.2.2.2.2.2.2
theorem and9 {a0 a1 a2 a3 a4 a5 a6 a7 a8 a9 : Prop} (h : a0 ∧ a1 ∧ a2 ∧ a3 ∧ a4 ∧ a5 ∧ a6 ∧ a7 ∧ a8 ∧ a9) : a9 := h.2.2.2.2.2.2.2.2.2
theorem and10 {a0 a1 a2 a3 a4 a5 a6 a7 a8 a9 a10 : Prop} (h : a0 ∧ a1 ∧ a2 ∧ a3 ∧ a4 ∧ a5 ∧ a6 ∧ a7 ∧ a8 ∧ a9 ∧ a10) : a10 := h.2.2.2.2.2.2.2.2.2.2
theorem and11 {a0 a1 a2 a3 a4 a5 a6 a7 a8 a9 a10 a11 : Prop} (h : a0 ∧ a1 ∧ a2 ∧ a3 ∧ a4 ∧ a5 ∧ a6 ∧ a7 ∧ a8 ∧ a9 ∧ a10 ∧ a11) : a11 := h.2.2.2.2.2.2.2.2.2.2.2
theorem and12 {a0 a1 a2 a3 a4 a5 a6 a7 a8 a9 a10 a11 a12 : Prop} (h : a0 ∧ a1 ∧ a2 ∧ a3 ∧ a4 ∧ a5 ∧ a6 ∧ a7 ∧ a8 ∧ a9 ∧ a10 ∧ a11 ∧ a12) : a12 := h.2.2.2.2.2.2.2.2.2.2.2.2
theorem and13 {a0 a1 a2 a3 a4 a5 a6 a7 a8 a9 a10 a11 a12 a13 : Prop} (h : a0 ∧ a1 ∧ a2 ∧ a3 ∧ a4 ∧ a5 ∧ a6 ∧ a7 ∧ a8 ∧ a9 ∧ a10 ∧ a11 ∧ a12 ∧ a13) : a13 := h.2.2.2.2.2.2.2.2.2.2.2.2.2
theorem and14 {a0 a1 a2 a3 a4 a5 a6 a7 a8 a9 a10 a11 a12 a13 a14 : Prop} (h : a0 ∧ a1 ∧ a2 ∧ a3 ∧ a4 ∧ a5 ∧ a6 ∧ a7 ∧ a8 ∧ a9 ∧ a10 ∧ a11 ∧ a12 ∧ a13 ∧ a14) : a14 := h.2.2.2.2.2.2.2.2.2.2.2.2.2.2
theorem and15 {a0 a1 a2 a3 a4 a5 a6 a7 a8 a9 a10 a11 a12 a13 a14 a15 : Prop} (h : a0 ∧ a1 ∧ a2 ∧ a3 ∧ a4 ∧ a5 ∧ a6 ∧ a7 ∧ a8 ∧ a9 ∧ a10 ∧ a11 ∧ a12 ∧ a13 ∧ a14 ∧ a15) : a15 := h.2.2.2.2.2.2.2.2.2.2.2.2.2.2.2
theorem and16 {a0 a1 a2 a3 a4 a5 a6 a7 a8 a9 a10 a11 a12 a13 a14 a15 a16 : Prop} (h : a0 ∧ a1 ∧ a2 ∧ a3 ∧ a4 ∧ a5 ∧ a6 ∧ a7 ∧ a8 ∧ a9 ∧ a10 ∧ a11 ∧ a12 ∧ a13 ∧ a14 ∧ a15 ∧ a16) : a16 := h.2.2.2.2.2.2.2.2.2.2.2.2.2.2.2.2
theorem and17 {a0 a1 a2 a3 a4 a5 a6 a7 a8 a9 a10 a11 a12 a13 a14 a15 a16 a17 : Prop} (h : a0 ∧ a1 ∧ a2 ∧ a3 ∧ a4 ∧ a5 ∧ a6 ∧ a7 ∧ a8 ∧ a9 ∧ a10 ∧ a11 ∧ a12 ∧ a13 ∧ a14 ∧ a15 ∧ a16 ∧ a17) : a17 := h.2.2.2.2.2.2.2.2.2.2.2.2.2.2.2.2.2
theorem and18 {a0 a1 a2 a3 a4 a5 a6 a7 a8 a9 a10 a11 a12 a13 a14 a15 a16 a17 a18 : Prop} (h : a0 ∧ a1 ∧ a2 ∧ a3 ∧ a4 ∧ a5 ∧ a6 ∧ a7 ∧ a8 ∧ a9 ∧ a10 ∧ a11 ∧ a12 ∧ a13 ∧ a14 ∧ a15 ∧ a16 ∧ a17 ∧ a18) : a18 := h.2.2.2.2.2.2.2.2.2.2.2.2.2.2.2.2.2.2
theorem and19 {a0 a1 a2 a3 a4 a5 a6 a7 a8 a9 a10 a11 a12 a13 a14 a15 a16 a17 a18 a19 : Prop} (h : a0 ∧ a1 ∧ a2 ∧ a3 ∧ a4 ∧ a5 ∧ a6 ∧ a7 ∧ a8 ∧ a9 ∧ a10 ∧ a11 ∧ a12 ∧ a13 ∧ a14 ∧ a15 ∧ a16 ∧ a17 ∧ a18 ∧ a19) : a19 := h.2.2.2.2.2.2.2.2.2.2.2.2.2.2.2.2.2.2.2
theorem and20 {a0 a1 a2 a3 a4 a5 a6 a7 a8 a9 a10 a11 a12 a13 a14 a15 a16 a17 a18 a19 a20 : Prop} (h : a0 ∧ a1 ∧ a2 ∧ a3 ∧ a4 ∧ a5 ∧ a6 ∧ a7 ∧ a8 ∧ a9 ∧ a10 ∧ a11 ∧ a12 ∧ a13 ∧ a14 ∧ a15 ∧ a16 ∧ a17 ∧ a18 ∧ a19 ∧ a20) : a20 := h.2.2.2.2.2.2.2.2.2.2.2.2.2.2.2.2.2.2.2.2
theorem and21 {a0 a1 a2 a3 a4 a5 a6 a7 a8 a9 a10 a11 a12 a13 a14 a15 a16 a17 a18 a19 a20 a21 : Prop} (h : a0 ∧ a1 ∧ a2 ∧ a3 ∧ a4 ∧ a5 ∧ a6 ∧ a7 ∧ a8 ∧ a9 ∧ a10 ∧ a11 ∧ a12 ∧ a13 ∧ a14 ∧ a15 ∧ a16 ∧ a17 ∧ a18 ∧ a19 ∧ a20 ∧ a21) : a21 := h.2.2.2.2.2.2.2.2.2.2.2.2.2.2.2.2.2.2.2.2.2
end
section
set_option maxRecDepth 100000
set_option maxHeartbeats 8000000
set_option linter.unusedVariables false
theorem fresh73 : True := by
  w_top off
  trivial
local macro_rules | `(tactic| k_mem) => `(tactic| walk_at "mem")
local macro_rules | `(tactic| walk_at "call ref") => `(tactic| (k_here; (with_reducible show wpAny _ _ (call (Value.ref 170) _) _ _ _); k_dflt ((with_reducible rename ∀ (l2 : Addr) (us2 : List Value) (n2 : Nat), StrsAre us2 _ → RO _ _ _ _ _ _ => C9); refine' ro_useLO (C9 _ _ _ ?hS) ?hl ?k1 ?k2 ?k3 ?k4 ?k5 ?kK ?kd ?ku ?kp ?_; (case kp => exact ⟨by kmk_list, News.get (by k_asm) (by k_mem)⟩); (case hS => walk_at "strs"); (case k1 => k_asm); (case k2 => k_asm); (case k3 => k_asm); (case k4 => k_asm); (case k5 => k_asm); (case kK => first | exact rfl | assumption); (case kd => ktr_room); (case ku => ktr_units); (case hl => k_mem); intro D' us' n' h' tk' F' N' ne' hS'; (try k_sweep); (try dsimp only); (try k_fold))))
local macro_rules | `(tactic| walk_at "call ref") => `(tactic| (k_here; (with_reducible show wpAny _ _ (call (Value.ref 29) [Value.ref _, _, Value.ref 156]) _ _ _); (rename RSL _ _ _ _ _ _ => C9); k_dflt ((refine' rs_use (rsl_get ?CC ?hm) ?k1 ?kXB ?kTB ?k2 ?k3 ?k4 ?k5 ?kK ?kd ?ku ?_; (case CC => with_reducible assumption); (case kXB => k_asm); (case kTB => k_asm); (case k1 => k_asm); (case k2 => k_asm); (case k3 => k_asm); (case k4 => k_asm); (case k5 => k_asm); (case kK => first | exact rfl | assumption); (case kd => ktr_room); (case ku => ktr_units); (case hm => k_mem); intro t' h' tk' F' N'; (try k_sweep); (try dsimp only); (try k_fold)))))
local macro_rules | `(tactic| walk_at "call ref") => `(tactic| (k_here; (with_reducible show wpAny _ _ (call (Value.ref 29) [Value.ref _, _, Value.ref 151]) _ _ _); k_dflt ((refine' rs_use (c_norm_list _ (by with_reducible assumption : Good _ _) ?hb _ _ _ _ _ ?hm) ?k1 ?kXB ?kTB ?k2 ?k3 ?k4 ?k5 ?kK ?kd ?ku ?_; (case hb => with_reducible assumption); (case kXB => k_asm); (case kTB => k_asm); (case k1 => k_asm); (case k2 => k_asm); (case k3 => k_asm); (case k4 => k_asm); (case k5 => k_asm); (case kK => first | exact rfl | assumption); (case kd => ktr_room); (case ku => ktr_units); (case hm => k_mem); intro t' h' tk' F' N'; (try k_sweep); (try dsimp only); (try k_fold)))))
local macro_rules | `(tactic| walk_at "call ref") => `(tactic| (k_here; (with_reducible show wpAny _ _ (call (Value.ref 29) [Value.ref _, _, Value.ref 144]) _ _ _); k_dflt ((refine' rs_use (c_dir_list _ (by with_reducible assumption : Good _ _) ?hb _ _ _ _ _ ?hm) ?k1 ?kXB ?kTB ?k2 ?k3 ?k4 ?k5 ?kK ?kd ?ku ?_; (case hb => with_reducible assumption); (case kXB => k_asm); (case kTB => k_asm); (case k1 => k_asm); (case k2 => k_asm); (case k3 => k_asm); (case k4 => k_asm); (case k5 => k_asm); (case kK => first | exact rfl | assumption); (case kd => ktr_room); (case ku => ktr_units); (case hm => k_mem); intro t' h' tk' F' N'; (try k_sweep); (try dsimp only); (try k_fold)))))
local macro_rules | `(tactic| walk_at "call ref") => `(tactic| (k_here; (with_reducible show wpAny _ _ (call (Value.ref 29) [Value.ref _, _, Value.ref 137]) _ _ _); k_dflt ((refine' rs_use (c_base_list _ (by with_reducible assumption : Good _ _) ?hb _ _ _ _ _ ?hm) ?k1 ?kXB ?kTB ?k2 ?k3 ?k4 ?k5 ?kK ?kd ?ku ?_; (case hb => with_reducible assumption); (case kXB => k_asm); (case kTB => k_asm); (case k1 => k_asm); (case k2 => k_asm); (case k3 => k_asm); (case k4 => k_asm); (case k5 => k_asm); (case kK => first | exact rfl | assumption); (case kd => ktr_room); (case ku => ktr_units); (case hm => k_mem); intro t' h' tk' F' N'; (try k_sweep); (try dsimp only); (try k_fold)))))

local macro_rules | `(tactic| k_qdec) => `(tactic| decide +kernel)
theorem words_T20_0 : True := by
  w_top off
  k_with_none
  k_with "steps" => repeat' ((fail_if_success (with_reducible show VPost _ _ _ _ _ _ _ _ _)); (fail_if_success (with_reducible show WhileStep2 _ _ _ _ _ _ _ _)); (fail_if_success (with_reducible show Stop _)); first | (k_unfold; (try dsimp only)) | walk1 | (dsimp only; walk1) | (leave1; (try dsimp only)) | fail "no step")
  k_with "exec For" => (k_here; (with_reducible show wpAny _ _ (exec (Stmt.For (PySem.Expr.Name _ _) _ _ _ _) _) _ _ _); (rename Fr _ _ _ _ => lF₉); (with_unfolding_all refine' For_invVF lF₉ (by exact rfl) (by exact rfl) ?_; k_whole))
  k_with "len" => first | with_reducible assumption | (with_reducible refine' len_getD (by assumption) _) | (with_reducible refine' len_join (by assumption)) | (with_reducible refine' KT.len_app (by walk_at "len") (by walk_at "len")) | ((with_reducible show (PySem.Str.ofString _).length ≤ _); exact Nat.le_refl _)
  k_with "binaryOp Add str str" => (k_here; (with_reducible show wpAny _ _ (binaryOp Operator.Add (Value.str _ _) (Value.str _ _)) _ _ _); (refine' KXadd.add (by walk_at "len") (by walk_at "len") (by exact Nat.le_of_ble_eq_true rfl) ?_); intro t₉ tk₉ hl₉)
  k_with "truthy str" => (k_here; (with_reducible show wpAny _ _ (PySem.truthy (Value.str _ _)) _ _ _); (refine' truthT (by walk_at "len") (by exact Nat.le_of_ble_eq_true rfl) ?_); intro tk₉)
  k_with "strs" => first | with_reducible assumption | exact StrsAre.nil | exact StrsAre.cons _ _ (by walk_at "strs")
  k_with "fits" => ((try rw [strs_len (by walk_at "strs")]); (try simp only [sizeLine_eq, List.length_append, List.length_cons, List.length_drop, List.length_dropLast, List.length_take, List.length_nil, List.length_reverse, List.length_replicate, Int.toNat_natCast]); omega)
  k_with "subscriptTail Name Slice ref ref" => (k_here; (with_reducible show wpAny _ _ (subscriptTail _ (PySem.Expr.Slice _ _ none _) (Value.ref _) (Value.ref _)) _ _ _); k_dflt (refine' strs_slice (by k_asm) (by k_asm) (by kmk_list) (by kmk_part) (by kmk_part) (by walk_at "cut") ?_ (by with_unfolding_all rfl) (by kmk_pure) (by walk_at "fits")); intro D₉ ws₉ h₉ F₉ N₉ l1₉ hS₉; (try k_lt l1₉); (try k_sweep))
  k_with "binaryOp Add ref ref" => (k_here; (with_reducible show wpAny _ _ (binaryOp _ (Value.ref _) (Value.ref _)) _ _ _); k_dflt (refine' strs_cat (by k_asm) (by k_asm) (by kmk_list) (by kmk_list) (by walk_at "strs") (by walk_at "strs") ?_ (by walk_at "fits")); intro D₉ ws₉ h₉ F₉ N₉ l1₉ hS₉; (try k_lt l1₉); (try k_sweep))
  k_with "oks" => first | with_reducible assumption | decide +kernel | exact fun z hz => (by assumption : ∀ z ∈ _, PyData.strOk z = true) z (List.mem_of_mem_take hz) | exact fun z hz => (by assumption : ∀ z ∈ _, PyData.strOk z = true) z (List.mem_of_mem_drop hz)
  k_with "weighs" => first | omega | ((try simp only [wt_append, wt_cons, wt_nil]); omega) | (refine Nat.le_trans (wt_init _) ?_; walk_at "weighs") | (refine Nat.le_trans (wt_drop _ _) ?_; walk_at "weighs") | (refine Nat.le_trans (wt_take _ _) ?_; walk_at "weighs")
  k_with "call builtin:str.join" => (k_here; (with_reducible show wpAny _ _ (call (Value.builtin _) [Value.str _ _, Value.ref _]) _ _ _); k_dflt (refine' join_wt (by kmk_list) (by walk_at "strs") (by decide +kernel) (by walk_at "weighs") ?_); intro t₉ tk₉)
  k_with "subscriptTail Name Slice ref ref" => (k_here; (with_reducible show wpAny _ _ (subscriptTail _ (PySem.Expr.Slice none none (some _) _) (Value.ref _) (Value.ref _)) _ _ _); k_dflt (refine' strs_back (by k_asm) (by k_asm) (by kmk_list) (by kmk_part) (by walk_at "strs") ?_ (by with_unfolding_all rfl) (by kmk_pure) (by walk_at "fits")); intro D₉ ws₉ h₉ F₉ N₉ l1₉ hS₉; (try k_lt l1₉); (try k_sweep))
  k_with "binaryOp Mult ref int" => (k_here; (with_reducible show wpAny _ _ (binaryOp Operator.Mult (Value.ref _) (Value.int _ _)) _ _ _); k_dflt (refine' strs_rep (by k_asm) (by k_asm) (by k_mem) (by first | omega | decide) (by first | omega | decide) ?_); intro D₉ ws₉ h₉ F₉ N₉ l1₉ hS₉; (try k_lt l1₉); (try k_sweep))
  k_with "truthy ref" => (k_here; (with_reducible show wpAny _ _ (truthy (Value.ref _)) _ _ _); k_dflt (refine' strs_truth (by kmk_list) (by walk_at "strs") (by walk_at "fits") ?_); intro tk₉)
  k_with "subscriptTail Subscript Name Constant Slice ref ref" => (k_here; (with_reducible show wpAny _ _ (subscriptTail _ (PySem.Expr.Slice _ _ none _) (Value.ref _) (Value.ref _)) _ _ _); k_dflt (refine' strs_slice (by k_asm) (by k_asm) (by kmk_list) (by kmk_part) (by kmk_part) (by walk_at "cut") ?_ (by with_unfolding_all rfl) (by kmk_pure) (by walk_at "fits")); intro D₉ ws₉ h₉ F₉ N₉ l1₉ hS₉; (try k_lt l1₉); (try k_sweep))
  k_with "subscriptTail Subscript Name Constant Slice ref ref" => (k_here; (with_reducible show wpAny _ _ (subscriptTail _ (PySem.Expr.Slice none none (some _) _) (Value.ref _) (Value.ref _)) _ _ _); k_dflt (refine' strs_back (by k_asm) (by k_asm) (by kmk_list) (by kmk_part) (by walk_at "strs") ?_ (by with_unfolding_all rfl) (by kmk_pure) (by walk_at "fits")); intro D₉ ws₉ h₉ F₉ N₉ l1₉ hS₉; (try k_lt l1₉); (try k_sweep))
  k_with "call builtin:str.split" => (k_here; (with_reducible show wpAny _ _ (call (Value.builtin "str.split") [Value.str _ _, Value.str _ _]) _ _ _); k_dflt (refine' strs_split (by k_asm) (by k_asm) (by decide +kernel) ?_ (by (rw [sizeLine_eq]; omega))); intro D₉ ws₉ h₉ k₉ F₉ N₉ l1₉ hS₉; (try k_lt l1₉); (try k_sweep))
  k_with "call builtin:list.append" => (k_here; (with_reducible show wpAny _ _ (call (Value.builtin "list.append") [Value.ref _, Value.str _ _]) _ _ _); k_dflt (refine' strs_append2 (by k_asm) (by k_asm) (by k_upd) (by walk_at "strs") (by walk_at "fits") ?_); intro h₉ F₉ N₉ hS₉; (try k_sweep))
  k_with "call builtin:list.pop" => (k_here; (with_reducible show wpAny _ _ (call (Value.builtin "list.pop") [Value.ref _]) _ _ _); k_dflt (refine' strs_pop2 (by k_asm) (by k_asm) (by k_upd) (by walk_at "strs") (by first | assumption | omega | (apply List.length_pos_iff.mpr; assumption)) (by walk_at "fits") ?_); intro h₉ t₉ F₉ N₉ hS₉; (try k_sweep))
  k_with "subscriptTail Name UnaryOp ref int" => (k_here; (with_reducible show wpAny _ _ (subscriptTail _ _ (Value.ref _) (Value.int _ _)) _ _ _); k_dflt (refine' strs_item_last (by kmk_list) (by walk_at "strs") (by walk_at "pos") ?_); intro t₉)
  k_with "pos" => first | assumption | ((try simp only [List.length_append, List.length_cons, List.length_drop, List.length_nil]); omega)
  k_with "subscriptTail Name Constant ref int" => (k_here; (with_reducible show wpAny _ _ (subscriptTail _ _ (Value.ref _) (Value.int _ _)) _ _ _); k_dflt (refine' lit_item (vs := [_, _]) (by exact News.isList (by k_asm) (by k_mem)) (by decide) (by decide) (by rfl) ?_; k_whole))
  k_with "subscriptTail Name Constant ref int" => (k_here; (with_reducible show wpAny _ _ (subscriptTail _ _ (Value.ref _) (Value.int _ _)) _ _ _); k_dflt (refine' strs_item (by kmk_list) (by walk_at "strs") (by decide) (by decide) (by omega) ?_); intro t₉)
  k_with "subscriptTail Subscript Name Constant Constant ref int" => walk_at "subscriptTail Name Constant ref int"
  k_with "call builtin:len" => (k_here; (with_reducible show wpAny _ _ (call (Value.builtin "len") [Value.ref _]) _ _ _); k_dflt (refine' strs_lenR (by kmk_list) (by walk_at "strs") (by walk_at "fits") ?_); intro t₉ tk₉)
  k_with "call builtin:len cons nil [ref ]" => walk_at "call builtin:len"
  k_with "mem" => first | exact List.mem_cons_self .. | ktr_member | (refine' List.mem_cons_of_mem _ ?_; walk_at "mem")
  k_with "call builtin:divmod" => ((with_reducible show wpAny _ _ (call (Value.builtin _) [Value.int _ _, Value.int _ _]) _ _ _); refine' divmod_known (by assumption) (by k_asm) (by k_asm) (by decide) (by exact Or.inl (PyProof.noPylong_small (by omega))) ?_; intro _ _ _)
  k_with "binaryOp Mod int int" => ((with_reducible show wpAny _ _ (binaryOp Operator.Mod (Value.int _ _) (Value.int _ _)) _ _ _); k_dflt (refine' mod_known (by assumption) (by decide) ?_))
  k_with "call ref" => (k_here; k_dflt (first
  | (refine' ro_useT (by with_reducible assumption) (by k_asm) (by k_asm) (by k_asm) (by k_asm) (by k_asm) (by first | exact rfl | assumption) (by ktr_room) (by ktr_units) (by first | exact trivial | kmk_list | exact ⟨by kmk_list, by kmk_list⟩) ?_; intro t₉ h₉ tk₉ F₉ N₉; (try k_sweep); (try dsimp only); (try k_fold))
  | (refine' ro_useL (by with_reducible assumption) (by k_asm) (by k_asm) (by k_asm) (by k_asm) (by k_asm) (by first | exact rfl | assumption) (by ktr_room) (by ktr_units) (by first | exact trivial | kmk_list | exact ⟨by kmk_list, by kmk_list⟩) ?_; intro D₉ us₉ n₉ h₉ tk₉ F₉ N₉ ne₉ hS₉; (try k_sweep); (try dsimp only); (try k_fold))
  | (refine' ro_useI (by with_reducible assumption) (by k_asm) (by k_asm) (by k_asm) (by k_asm) (by k_asm) (by first | exact rfl | assumption) (by ktr_room) (by ktr_units) (by first | exact trivial | kmk_list | exact ⟨by kmk_list, by kmk_list⟩) ?_; intro t₉ h₉ tk₉ F₉ N₉; (try k_sweep); (try dsimp only); (try k_fold))
  | ((with_reducible rename ∀ u, RO _ _ _ _ _ _ => C9₉); first | (refine' ro_useT (C9₉ _) (by k_asm) (by k_asm) (by k_asm) (by k_asm) (by k_asm) (by first | exact rfl | assumption) (by ktr_room) (by ktr_units) (by first | exact trivial | kmk_list | exact ⟨by kmk_list, by kmk_list⟩) ?_; intro t₉ h₉ tk₉ F₉ N₉; (try k_sweep); (try dsimp only); (try k_fold)) | (refine' ro_useL (C9₉ _) (by k_asm) (by k_asm) (by k_asm) (by k_asm) (by k_asm) (by first | exact rfl | assumption) (by ktr_room) (by ktr_units) (by first | exact trivial | kmk_list | exact ⟨by kmk_list, by kmk_list⟩) ?_; intro D₉ us₉ n₉ h₉ tk₉ F₉ N₉ ne₉ hS₉; (try k_sweep); (try dsimp only); (try k_fold)) | (refine' ro_useI (C9₉ _) (by k_asm) (by k_asm) (by k_asm) (by k_asm) (by k_asm) (by first | exact rfl | assumption) (by ktr_room) (by ktr_units) (by first | exact trivial | kmk_list | exact ⟨by kmk_list, by kmk_list⟩) ?_; intro t₉ h₉ tk₉ F₉ N₉; (try k_sweep); (try dsimp only); (try k_fold)))))
  k_with "alt" => (first | with_reducible assumption | with_reducible exact And.right (by with_reducible assumption) | with_reducible exact and2 (by with_reducible assumption) | with_reducible exact and3 (by with_reducible assumption) | with_reducible exact and4 (by with_reducible assumption) | with_reducible exact and5 (by with_reducible assumption) | with_reducible exact and6 (by with_reducible assumption) | with_reducible exact and7 (by with_reducible assumption) | with_reducible exact and8 (by with_reducible assumption) | with_reducible exact and9 (by with_reducible assumption) | with_reducible exact and10 (by with_reducible assumption) | with_reducible exact and11 (by with_reducible assumption) | with_reducible exact and12 (by with_reducible assumption) | with_reducible exact and13 (by with_reducible assumption) | with_reducible exact and14 (by with_reducible assumption) | with_reducible exact and15 (by with_reducible assumption) | with_reducible exact and16 (by with_reducible assumption) | with_reducible exact and17 (by with_reducible assumption) | with_reducible exact and18 (by with_reducible assumption) | with_reducible exact and19 (by with_reducible assumption) | with_reducible exact and20 (by with_reducible assumption) | with_reducible exact and21 (by with_reducible assumption))
  k_with "compareOp Eq bool bool" => (with_reducible refine eq_bool_known (by with_reducible assumption) ?_)
  k_with "subscriptTail" => (k_here; (with_reducible show wpAny _ _ (subscriptTail _ _ (Value.ref _) (Value.int _ _)) _ _ _); k_dflt (refine' lit_item (vs := [_, _, _]) (by exact News.isList (by k_asm) (by k_mem)) (by decide) (by decide) (by rfl) ?_; k_whole))
  k_with "subscriptTail List BinOp ref int" => (k_here; (with_reducible show wpAny _ _ (subscriptTail _ _ (Value.ref _) (Value.int _ _)) _ _ _); k_dflt (refine' lit_item (vs := [_, _, _]) (by exact News.isList (by k_asm) (by k_mem)) (by decide) (by decide) (by rfl) ?_; k_whole))
  k_with "subscriptTail List BinOp Name Constant ref int" => (k_here; (with_reducible show wpAny _ _ (subscriptTail _ _ (Value.ref _) (Value.int _ _)) _ _ _); k_dflt (refine' lit_item (vs := [_, _, _]) (by exact News.isList (by k_asm) (by k_mem)) (by decide) (by decide) (by rfl) ?_; k_whole))
  k_with "subscriptTail List cons BinOp ref int" => (k_here; (with_reducible show wpAny _ _ (subscriptTail _ _ (Value.ref _) (Value.int _ _)) _ _ _); k_dflt (refine' lit_item (vs := [_, _, _]) (by exact News.isList (by k_asm) (by k_mem)) (by decide) (by decide) (by rfl) ?_; k_whole))
  k_with "ite" => (with_reducible refine ite_then (c := ((0 : Int) == (0 : Int)) = true) (by decide) ?_)
  k_with "ite" => (with_reducible refine ite_else (by with_reducible assumption) ?_)
  k_with "exec If" => ((fail_if_success (with_reducible show wpAny _ _ _ (CutEnd _ _) _ _)); (with_reducible show wpAny _ _ (exec (Stmt.If (Expr.Compare (Expr.Name (Str.ofString "deed") _) [CmpOp.Eq] [Expr.Constant (Const.int 0) _ _] _) _ _ _) _) _ _ _); refine stop_out ?_)
  k_with "subscriptTail List cons BinOp ref int" => ((with_reducible show wpAny _ _ (subscriptTail (Expr.List (Expr.List _ _ :: _) _) _ (Value.ref _) (Value.int _ _)) _ _ _); refine stop_out ?_)
  trivial
theorem top : PySem.Challenge.rw_in0025_01.Holds := Mine.hd (by
  k_go0
  all_goals try k_fold
  walk_at "steps"
  unfold Stop
  rename List Int => script
  rename World => w
  rename Fr _ _ _ _ => F5
  rename News _ _ _ _ => N5
  rename IntsAre _ (_ ++ [5, 4, 5, 2]) => hI
  generalize hks : (List.map (fun k' => Int.fmod k' (10 ^ Int.toNat 6)) (List.take 5 script) ++ [5, 4, 5, 2]) = ks at hI
  have hkb : ∀ k ∈ ks, 0 ≤ k ∧ k < 1000000 := by
    rw [← hks]
    intro k hk
    rcases List.mem_append.mp hk with hk | hk
    · obtain ⟨z, _, rfl⟩ := List.mem_map.mp hk
      exact mod_bounds z 1000000 (by decide)
    · simp at hk; omega
  have hkl : ks.length ≤ 9 := by rw [← hks]; simp; omega
  clear hks
  obtain ⟨n0, N0, J0⟩ := start_J F5 N5 rfl rfl rfl rfl (by k_mem) (by k_mem)
  refine' iter_vals Jl ?hh ?hl ?hL F5 N0 J0 ?turn ?done
  case turn =>
    rintro i v m₁ _ h tk own I hv hIo ⟨oI, hIn⟩ hlI ⟨lb, lr, ub, ur, cb, cr, be, ro, te, tt, e1, e2, e3, e4, rfl, hSb, hSr, Gb, Gr⟩ F₁ N₁
    obtain ⟨k, tk0, rfl, hk9⟩ := IntsAre.at hI i v hv
    have hkk := hkb k (List.mem_of_getElem? hk9)
    have hk0 := hkk.1
    have hk1 := hkk.2
    have hi9 : i < 9 := Nat.lt_of_lt_of_le (List.getElem?_eq_some_iff.mp hk9).1 hkl
    have hbd : bd i ≤ 600 := by unfold bd; omega
    have hb60 : bd i ≤ 60000 := by omega
    have hwr := Gr.wt60 hb60
    have hwb := Gb.wt60 hb60
    have hlr := rt60 Gr hb60
    have hlb := rt60 Gb hb60
    have hnr := Gr.len hb60
    have hrI : lr ≠ I := hIo (lr, _) (List.mem_cons_of_mem _ (List.mem_cons_self ..))
    have F₂ := fr_at2 [(Str.ofString "before", .ref lb), (Str.ofString "row", .ref lr), (Str.ofString "earlier", .str (rt be) te), (Str.ofString "text", .str (rt ro) tt)] F₁ (by simp [e1, e2, e3, e4])
    clear F₁ F5 N5 hv hk9 hkb hkl hkk hIo
    simp only [List.cons_append, List.nil_append] at N₁
    obtain ⟨e, he⟩ : ∃ e, k.fmod 7 = e := ⟨_, rfl⟩
    walk_at "steps"
    unfold Stop
    refine cut_law (by k_asm) i own I lr ur cr ro tt ?br ?tail
    case br =>
     rcases mod7c k with hd7 | hd7 | hd7 | hd7 | hd7 | hd7 <;> rw [he] at hd7
     · subst hd7
       obtain ⟨hq0, hq8⟩ := mod8b (k.fdiv 7)
       walk_at "steps"
       unfold Stop
       refine lit_part (I := I) (vs := [_, _, _, _, _, _, _, _]) (by k_asm) (by k_mem) rfl hq0 hq8 ?hP ?go
       case hP =>
         exact all8 (⟨_, _, _, _, rfl, by k_mem, ne_lt (by walk_at "alt") hIn, by walk_at "strs", gp_a⟩) (⟨_, _, _, _, rfl, by k_mem, ne_lt (by walk_at "alt") hIn, by walk_at "strs", gp_up⟩) (⟨_, _, _, _, rfl, by k_mem, ne_lt (by walk_at "alt") hIn, by walk_at "strs", gp_b2⟩) (⟨_, _, _, _, rfl, by k_mem, ne_lt (by walk_at "alt") hIn, by walk_at "strs", gp_dot⟩) (⟨_, _, _, _, rfl, by k_mem, ne_lt (by walk_at "alt") hIn, by walk_at "strs", gp_ab⟩) (⟨_, _, _, _, rfl, by k_mem, ne_lt (by walk_at "alt") hIn, by walk_at "strs", gp_e⟩) (⟨_, _, _, _, rfl, by k_mem, ne_lt (by walk_at "alt") hIn, by walk_at "strs", gp_b3⟩) (⟨_, _, _, _, rfl, by k_mem, ne_lt (by walk_at "alt") hIn, by walk_at "strs", gp_b4⟩)
       case go =>
         rintro _ ⟨l2, us2, n2, p, rfl, hm2, hI2, hs2, gp⟩
         rename News _ _ _ _ => N7
         have N8 := news_add N7 hm2
         clear N7 hm2
         have C1 : ∀ u, RO w 3 123 [.str (rt ro) tt, .str (Txt.join (Str.ofString "/") p) u] NoPre (IsT (rt (joinedS ro p))) := fun u => c_join w Gr hb60 tt u gp (by decide)
         have C2 : ∀ (l2 : Addr) (us2 : List Value) (n2 : Nat), StrsAre us2 p → RO w 20 170 [.ref lr, .ref l2] (fun h => h.IsList lr (List.toArray ur) ∧ h.get? l2 = some (listOf (List.toArray us2) n2)) (IsLO (joinedS ro p) l2) := fun l2 us2 n2 h2 => joined_ok w lr ur ro l2 us2 n2 _ hSr hwr Gr.2.2.1 Gr.pos h2 (gp.wt60 (by decide)) gp.2.2.1 gp.pos
         have hwf := (good_joined Gr gp).wt60 (show bd i + 60 ≤ 60000 by omega)
         have hwp := gp.wt60 (by decide)
         walk_at "steps"
         all_goals
           refine cut_end (by k_asm) (by k_asm) rfl rfl rfl rfl (by k_mem) (by k_mem) (by intro p hp; k_ownIn) ?dI (by with_reducible assumption) ?gI
           case dI => exact ne_own2 (by with_reducible assumption) (by repeat (first | exact hIn | refine List.mem_cons_of_mem _ ?_)) hI2
           case gI => exact good_joined Gr gp
     · subst hd7
       have C1 := c_norm w Gr hb60 tt tt (rt ro)
       have C2 := straight_ok w lr ur ro hSr hwr Gr.2.2.1 Gr.pos
       have C3 := above_ok w lr ur ro hSr hwr Gr.2.2.1 Gr.pos
       have hwf := (good_straight Gr).wt60 (show bd i + 60 ≤ 60000 by omega)
       walk_at "steps"
       all_goals
         refine cut_end (by k_asm) (by k_asm) rfl rfl rfl rfl (by k_mem) (by k_mem) (by intro p hp; k_ownIn) ?dI (by with_reducible assumption) ?gI
         case dI => (first | exact ne_own (by with_reducible assumption) (by repeat (first | exact hIn | refine List.mem_cons_of_mem _ ?_)) | exact ne_lt (by walk_at "alt") hIn)
         case gI => exact good_straight Gr
     · subst hd7
       have C1 := c_dir w Gr hb60 tt tt (rt ro)
       have C2 := straight_ok w lr ur ro hSr hwr Gr.2.2.1 Gr.pos
       have C3 := above_ok w lr ur ro hSr hwr Gr.2.2.1 Gr.pos
       have hwf := (good_above Gr).wt60 (show bd i + 60 ≤ 60000 by omega)
       walk_at "steps"
       all_goals
         refine cut_end (by k_asm) (by k_asm) rfl rfl rfl rfl (by k_mem) (by k_mem) (by intro p hp; k_ownIn) ?dI (by with_reducible assumption) ?gI
         case dI => (first | exact ne_own (by with_reducible assumption) (by repeat (first | exact hIn | refine List.mem_cons_of_mem _ ?_)) | exact ne_lt (by walk_at "alt") hIn)
         case gI => exact good_above Gr
     · subst hd7
       have C1 := c_base w Gr hb60 tt tt (rt ro)
       have C2 := straight_ok w lr ur ro hSr hwr Gr.2.2.1 Gr.pos
       have C3 := above_ok w lr ur ro hSr hwr Gr.2.2.1 Gr.pos
       have hwf := (good_last Gr).wt60 (show bd i + 60 ≤ 60000 by omega)
       walk_at "steps"
       all_goals
         refine cut_end (by k_asm) (by k_asm) rfl rfl rfl rfl (by k_mem) (by k_mem) (by intro p hp; k_ownIn) ?dI (by with_reducible assumption) ?gI
         case dI => (first | exact ne_own (by with_reducible assumption) (by repeat (first | exact hIn | refine List.mem_cons_of_mem _ ?_)) | exact ne_lt (by walk_at "alt") hIn)
         case gI => exact good_last Gr
     · subst hd7
       rcases mod3 (k.fdiv 7) with hd3 | hd3 | hd3
       · have C4 : ∀ u, RO w 1 196 [.ref lr, .str (Str.ofString "normpath") u] (fun h => h.IsList lr (List.toArray ur)) (IsL (refusedS ro (Str.ofString "normpath"))) := fun u => refused_ok w lr ur ro (Str.ofString "normpath") u hSr (by decide +kernel) hnr (Gr.mem hb60) Gr.pos
         have hwf := (good_refused (y := Str.ofString "normpath") Gr ⟨by decide +kernel, by decide +kernel⟩ (by decide +kernel)).wt60 (show bd i + 60 ≤ 60000 by omega)
         walk_at "steps"
         all_goals
           refine cut_end (by k_asm) (by k_asm) rfl rfl rfl rfl (by k_mem) (by k_mem) (by intro p hp; k_ownIn) ?dI (by with_reducible assumption) ?gI
           case dI => (first | exact ne_own (by with_reducible assumption) (by repeat (first | exact hIn | refine List.mem_cons_of_mem _ ?_)) | exact ne_lt (by walk_at "alt") hIn)
           case gI => exact good_refused (y := Str.ofString "normpath") Gr ⟨by decide +kernel, by decide +kernel⟩ (by decide +kernel)
       · have C4 : ∀ u, RO w 1 196 [.ref lr, .str (Str.ofString "dirname") u] (fun h => h.IsList lr (List.toArray ur)) (IsL (refusedS ro (Str.ofString "dirname"))) := fun u => refused_ok w lr ur ro (Str.ofString "dirname") u hSr (by decide +kernel) hnr (Gr.mem hb60) Gr.pos
         have hwf := (good_refused (y := Str.ofString "dirname") Gr ⟨by decide +kernel, by decide +kernel⟩ (by decide +kernel)).wt60 (show bd i + 60 ≤ 60000 by omega)
         walk_at "steps"
         all_goals
           refine cut_end (by k_asm) (by k_asm) rfl rfl rfl rfl (by k_mem) (by k_mem) (by intro p hp; k_ownIn) ?dI (by with_reducible assumption) ?gI
           case dI => (first | exact ne_own (by with_reducible assumption) (by repeat (first | exact hIn | refine List.mem_cons_of_mem _ ?_)) | exact ne_lt (by walk_at "alt") hIn)
           case gI => exact good_refused (y := Str.ofString "dirname") Gr ⟨by decide +kernel, by decide +kernel⟩ (by decide +kernel)
       · have C4 : ∀ u, RO w 1 196 [.ref lr, .str (Str.ofString "basename") u] (fun h => h.IsList lr (List.toArray ur)) (IsL (refusedS ro (Str.ofString "basename"))) := fun u => refused_ok w lr ur ro (Str.ofString "basename") u hSr (by decide +kernel) hnr (Gr.mem hb60) Gr.pos
         have hwf := (good_refused (y := Str.ofString "basename") Gr ⟨by decide +kernel, by decide +kernel⟩ (by decide +kernel)).wt60 (show bd i + 60 ≤ 60000 by omega)
         walk_at "steps"
         all_goals
           refine cut_end (by k_asm) (by k_asm) rfl rfl rfl rfl (by k_mem) (by k_mem) (by intro p hp; k_ownIn) ?dI (by with_reducible assumption) ?gI
           case dI => (first | exact ne_own (by with_reducible assumption) (by repeat (first | exact hIn | refine List.mem_cons_of_mem _ ?_)) | exact ne_lt (by walk_at "alt") hIn)
           case gI => exact good_refused (y := Str.ofString "basename") Gr ⟨by decide +kernel, by decide +kernel⟩ (by decide +kernel)
     · have he0 : ¬ ((e == 0) = true) := by simp only [beq_iff_eq]; omega
       have he4 : ¬ (decide (e < 4) = true) := by simp only [decide_eq_true_eq]; omega
       have he9 : ¬ ((e == 4) = true) := by simp only [beq_iff_eq]; omega
       by_cases hal : decide (0 < rootS be) = decide (0 < rootS ro)
       · have C1 := fun l => c_common w Gb hb60 te tt (rt ro) Gr hb60 l tt hal
         have C3 := shared_ok w lb ub be lr ur ro hSb hwb Gb.2.2.1 Gb.pos hSr hwr Gr.2.2.1 Gr.pos
         have CR1 := root_ok w lb ub be hSb (Gb.len hb60) Gb.pos
         have CR2 := root_ok w lr ur ro hSr hnr Gr.pos
         have hwf := (good_shared (ss2 := ro) Gb).wt60 (show bd i + 60 ≤ 60000 by omega)
         have hal2 : (decide (0 < (rootS be : Int)) == decide (0 < (rootS ro : Int))) = true := by rw [root_dec, hal]; exact beq_self_eq_true _
         walk_at "steps"
         all_goals
           refine cut_end (by k_asm) (by k_asm) rfl rfl rfl rfl (by k_mem) (by k_mem) (by intro p hp; k_ownIn) ?dI (by with_reducible assumption) ?gI
           case dI => (first | exact ne_own (by with_reducible assumption) (by repeat (first | exact hIn | refine List.mem_cons_of_mem _ ?_)) | exact ne_lt (by walk_at "alt") hIn)
           case gI => exact good_shared Gb
       · have C1 := rsl_of (w := w) Gb hb60 te tt Gr hb60 hal
         have C4 : ∀ u, RO w 1 196 [.ref lr, .str (Str.ofString "commonpath") u] (fun h => h.IsList lr (List.toArray ur)) (IsL (refusedS ro (Str.ofString "commonpath"))) := fun u => refused_ok w lr ur ro (Str.ofString "commonpath") u hSr (by decide +kernel) hnr (Gr.mem hb60) Gr.pos
         have CR1 := root_ok w lb ub be hSb (Gb.len hb60) Gb.pos
         have CR2 := root_ok w lr ur ro hSr hnr Gr.pos
         have hwf := (good_refused (y := Str.ofString "commonpath") Gr ⟨by decide +kernel, by decide +kernel⟩ (by decide +kernel)).wt60 (show bd i + 60 ≤ 60000 by omega)
         have hal2 : (decide (0 < (rootS be : Int)) == decide (0 < (rootS ro : Int))) = false := by rw [root_dec]; exact beq_eq_false_iff_ne.mpr hal
         walk_at "steps"
         all_goals
           refine cut_end (by k_asm) (by k_asm) rfl rfl rfl rfl (by k_mem) (by k_mem) (by intro p hp; k_ownIn) ?dI (by with_reducible assumption) ?gI
           case dI => (first | exact ne_own (by with_reducible assumption) (by repeat (first | exact hIn | refine List.mem_cons_of_mem _ ?_)) | exact ne_lt (by walk_at "alt") hIn)
           case gI => exact good_refused (y := Str.ofString "commonpath") Gr ⟨by decide +kernel, by decide +kernel⟩ (by decide +kernel)
    case tail =>
      rintro h6 tk6 ⟨m6, D6, us6, n6, ss6, t6, F6, N6, f1, f2, f3, f4, hD6, hS6, G6⟩
      have F7 := fr_at1 [(Str.ofString "row", .ref lr), (Str.ofString "text", .str (rt ro) tt), (Str.ofString "told", .str (rt ss6) t6), (Str.ofString "fresh", .ref D6)] F6 (by simp [f1, f2, f3, f4])
      clear F6 hSb Gb hwb hlb
      have hwf := G6.wt60 (show bd i + 60 ≤ 60000 by omega)
      dsimp only
      walk_at "steps"
      all_goals try (exfalso; (rename (_ != _) = true => hx9); (simp [rt] at hx9; done))
      all_goals
        exact turn_end (by k_asm) (by k_asm) rfl rfl rfl rfl (by k_mem) (by k_mem) (by intro p hp; k_ownIn) hrI hD6 hSr hS6 Gr G6

  case done =>
    rintro m₁ news₁ h tk ⟨lb, lr, ub, ur, cb, cr, be, ro, te, tt, e1, e2, e3, e4, rfl, hSb, hSr, Gb, Gr⟩ F₁ N₁
    clear F5 N5
    dsimp only
    walk_at "steps"
    dsimp only
    k_steps
  case hh => exact rfl
  case hl => exact News.isList N5 (by k_mem)
  case hL => exact (N5 _ (by k_mem)).2.1
  )
end
end Mine
theorem PySem.Challenge.cw_in0025_01_holds : PySem.Challenge.rw_in0025_01.Holds :=
  Mine.top
