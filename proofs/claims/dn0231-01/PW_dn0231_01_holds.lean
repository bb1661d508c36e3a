import PyProof.Rows.All
import Wide.All
import OpenK.AllK
import Wide.FinOn
import Flt.RightMore
import PySem.Challenge.RW_dn0231_01
/-! The law of _format_size: the head by the library's open_top; the walk of _format_size by the library's walker with lines of our own (Pc, Fs);
    the loop over enumerate(zip(..)), the turn, the plain law about doubles and their texts: by hand. Written by an AI agent. -/
set_option Elab.async false
section
open PySem PySem.W PyProof.Rows
set_option maxRecDepth 100000
set_option maxHeartbeats 8000000
namespace Mine
open_top hd0231 for PySem.Challenge.rw_dn0231_01
end Mine
end

-- part Pc
section
open PySem PySem.W PyProof.Rows PySem.Builtin PySem.Builtin.Str
set_option maxRecDepth 100000
set_option maxHeartbeats 1000000
namespace Mine
def laid (sg : Bool) (text : List Nat) : List Nat := match text with
  | 45 :: r => 45 :: r
  | 43 :: r => 43 :: r
  | _ => (if sg then [43] else []) ++ text
def rawText (x : UInt64) (p : Nat) : List Nat := (if (Float64.text x 'f' p false false false).1 then [45] else []) ++ (Float64.text x 'f' p false false false).2.map Char.toNat
def fText (x : UInt64) (p : Nat) (sg : Bool) : PySem.Str := ⟨(laid sg (rawText x p)).toArray⟩
theorem laid_false (text : List Nat) : laid false text = text := by
  unfold laid
  split <;> simp
theorem pf_is (sg : Bool) (p : Nat) (text : List Nat) :
    (percentField { sign := sg, prec := some p, type := 102 } true text = none ∧ sg = false) ∨ percentField { sign := sg, prec := some p, type := 102 } true text = some (laid sg text) := by
  unfold percentField
  split
  · rename_i h
    left
    simp at h
    simp [h]
  · right
    unfold laid
    match text with
    | [] => cases sg <;> simp
    | c :: r =>
      by_cases h1 : c = 45
      · subst h1; simp
      · by_cases h2 : c = 43
        · subst h2; simp
        · simp [h1, h2]
theorem pure_to {α : Type} {M : Model} {A : Around} {E : Value → Shared → Prop} {s : Shared} {a a' : α} {Q : α → Shared → Prop} (e : a = a') (h : Q a' s) : wpAny M A (pure a) Q E s := e ▸ wpAny_pure h
section
variable {M : Model} {A : Around} {E : Value → Shared → Prop} {s : Shared} {l : List Nat} {p : List Value} {r : List Nat}
  {f : Nat → List Value × Writer × List Nat → Sem (ForInStep (List Value × Writer × List Nat))} {Q : List Value × Writer × List Nat → Shared → Prop}
  {w : Writer} {T x y : PySem.Str} {N K : Nat} {o : Option Value}
theorem after_list {sg : Bool} {pr : Nat} {text : List Nat}
    {Q' : ForInStep (List Value × Writer × List Nat) → Shared → Prop}
    (g : KPc.Good w PySem.Str.empty N) (hy : (laid sg text).length ≤ K)
    (h : ∀ w', KPc.Good w' ⟨(laid sg text).toArray⟩ (N + K) → Q' (.yield (p, w', r)) s) :
    wpAny M A (match percentField { sign := sg, prec := some pr, type := 102 } true text with
      | none => pure (.yield (p, w.add ⟨text.toArray⟩ none, r))
      | some laid => pure (.yield (p, w.add ⟨laid.toArray⟩ none, r))) Q' E s := by
  have g' : KPc.Good (w.add ⟨(laid sg text).toArray⟩ none) ⟨(laid sg text).toArray⟩ (N + K) := by
    have := KPc.good_mono (KPc.good_add g (KPc.obj_none (o := none) (x := ⟨(laid sg text).toArray⟩) rfl)) (K := N + K) (by
      show N + (laid sg text).toArray.size ≤ N + K
      simpa using hy)
    rwa [KPc.empty_app] at this
  rcases pf_is sg pr text with ⟨e, rfl⟩ | e
  · rw [e]
    rw [laid_false] at g' h
    exact wpAny_pure (h _ g')
  · rw [e]
    exact wpAny_pure (h _ g')
end
def GivesF (x : UInt64) (v : Value) : Prop := ∀ {prog : Program} {w : World} {A : Around} {E : Value → Shared → Prop} (s : Shared) (Q : UInt64 → Shared → Prop), (∀ k, Q x { s with toks := k }) → wpAny (model prog w) A (percentFloatOf v) Q E s
theorem gives_float (x : UInt64) (t : Tok) : GivesF x (.float x t) := by
  intro prog w A E s Q h
  have e : percentFloatOf (.float x t) = pure x := rfl
  rw [e]
  exact wpAny_pure (h s.toks)
theorem gives_int (n : Int) (t : Tok) (hn : ¬ Float64.isInf (Float64.ofInt n) = true) : GivesF (Float64.ofInt n) (.int n t) := by
  intro prog w A E s Q h
  unfold percentFloatOf
  refine wpAny_bind (wpAny_of_eq (a := none) rfl ?_)
  refine wpAny_bind ?_
  refine wpAny_callSpecial?_slot (name := Str.ofString "__float__") (typeIs_int s n t) F.slot_int_float ?_
  refine call_gives F.slot_int_float (typeIs_int _ _ _) F.entry_int_float (F.args_int_float_1 _) (AutoIntG0.int___float___int_1 n t hn) ?_
  refine wpAny_bind (wpAny_of_eq (a := some (Float64.ofInt n)) rfl ?_)
  exact wpAny_pure (h _)
def G10 : PySem.Str := ⟨#[37, 46, 49, 102, 32, 37, 115]⟩
theorem laid_len (x : UInt64) (p : Nat) (hp : p ≤ 1) (sg : Bool) : (laid sg (rawText x p)).length ≤ 6000 := by
  have h := PySem.Flt.text_len x 'f' p false false false
  have h2 : (rawText x p).length ≤ 5001 + 5 * p := by
    unfold rawText
    rw [List.length_append, List.length_map]
    split <;> simp <;> omega
  have h3 : ∀ l : List Nat, (laid sg l).length ≤ l.length + 1 := by
    intro l
    unfold laid
    split
    · simp
    · simp
    · rw [List.length_append]; cases sg <;> simp <;> omega
  have := h3 (rawText x p)
  omega
theorem pc10 (b : Addr) (x : UInt64) (v : Value) (hv : GivesF x v) (u : PySem.Str) (tu t : Tok) (hu : u.length ≤ 3) : Meets («str.__mod__» ⟨[.str G10 t, .ref b], []⟩) (fun _ R s => IsTup s.heap b #[v, .str u tu] ∧ ∀ t' k, R (.ok (.ret (.str (fText x 1 false ++ Str.ofString " " ++ u) t'))) { s with toks := k }) := by
  apply KPt.meets_tup
  intro _ _ _ _ _ _ kptH _
  obtain ⟨kptO, kptG, kptC, kptN, kptD⟩ := kptH
  rw [KPt.entry_is_r]
  unfold Builtin.Str.percentFormat
  refine wpAny_bind (wpAny_isInstance (T := "tuple") ⟨kptO, kptG, kptC⟩ KPt.sub_tt ?_)
  refine wpAny_bind (KPt.asStr_ref kptG kptD ?_)
  refine wpAny_bind (KPt.fills_ref ⟨kptO, kptG, kptC⟩ ?_)
  intro _
  kpc_if
  refine wpAny_bind (wpAny_seqItems kptG kptD ?_)
  refine wpAny_bind (wpAny_pure ?_)
  refine wpAny_bind ?_
  rw [KPc.range_list]
  refine KPc.start ?_
  intro _ _
  refine KPc.turn ?_; kpc_check; (repeat kpc_if)
  refine wpAny_bind ?_; refine wpAny_holding ?_; (repeat kpc_if)
  refine wpAny_bind (hv _ _ ?_)
  intro k
  (repeat kpc_if)
  refine pure_to (a' := (rawText x 1, none, true)) rfl ?_
  refine after_list (K := 6000) (sg := false) (pr := 1) (by kpc_g) (laid_len x 1 (by decide) false) ?_
  intro _ _
  kpt_turns
def G11 : PySem.Str := ⟨#[37, 43, 46, 49, 102, 32, 37, 115]⟩
theorem pc11 (b : Addr) (x : UInt64) (v : Value) (hv : GivesF x v) (u : PySem.Str) (tu t : Tok) (hu : u.length ≤ 3) : Meets («str.__mod__» ⟨[.str G11 t, .ref b], []⟩) (fun _ R s => IsTup s.heap b #[v, .str u tu] ∧ ∀ t' k, R (.ok (.ret (.str (fText x 1 true ++ Str.ofString " " ++ u) t'))) { s with toks := k }) := by
  apply KPt.meets_tup
  intro _ _ _ _ _ _ kptH _
  obtain ⟨kptO, kptG, kptC, kptN, kptD⟩ := kptH
  rw [KPt.entry_is_r]
  unfold Builtin.Str.percentFormat
  refine wpAny_bind (wpAny_isInstance (T := "tuple") ⟨kptO, kptG, kptC⟩ KPt.sub_tt ?_)
  refine wpAny_bind (KPt.asStr_ref kptG kptD ?_)
  refine wpAny_bind (KPt.fills_ref ⟨kptO, kptG, kptC⟩ ?_)
  intro _
  kpc_if
  refine wpAny_bind (wpAny_seqItems kptG kptD ?_)
  refine wpAny_bind (wpAny_pure ?_)
  refine wpAny_bind ?_
  rw [KPc.range_list]
  refine KPc.start ?_
  intro _ _
  refine KPc.turn ?_; kpc_check; (repeat kpc_if)
  refine wpAny_bind ?_; refine wpAny_holding ?_; (repeat kpc_if)
  refine wpAny_bind (hv _ _ ?_)
  intro k
  (repeat kpc_if)
  refine pure_to (a' := (rawText x 1, none, true)) rfl ?_
  refine after_list (K := 6000) (sg := true) (pr := 1) (by kpc_g) (laid_len x 1 (by decide) true) ?_
  intro _ _
  kpt_turns
def G00 : PySem.Str := ⟨#[37, 46, 48, 102, 32, 37, 115]⟩
theorem pc00 (b : Addr) (x : UInt64) (v : Value) (hv : GivesF x v) (u : PySem.Str) (tu t : Tok) (hu : u.length ≤ 3) : Meets («str.__mod__» ⟨[.str G00 t, .ref b], []⟩) (fun _ R s => IsTup s.heap b #[v, .str u tu] ∧ ∀ t' k, R (.ok (.ret (.str (fText x 0 false ++ Str.ofString " " ++ u) t'))) { s with toks := k }) := by
  apply KPt.meets_tup
  intro _ _ _ _ _ _ kptH _
  obtain ⟨kptO, kptG, kptC, kptN, kptD⟩ := kptH
  rw [KPt.entry_is_r]
  unfold Builtin.Str.percentFormat
  refine wpAny_bind (wpAny_isInstance (T := "tuple") ⟨kptO, kptG, kptC⟩ KPt.sub_tt ?_)
  refine wpAny_bind (KPt.asStr_ref kptG kptD ?_)
  refine wpAny_bind (KPt.fills_ref ⟨kptO, kptG, kptC⟩ ?_)
  intro _
  kpc_if
  refine wpAny_bind (wpAny_seqItems kptG kptD ?_)
  refine wpAny_bind (wpAny_pure ?_)
  refine wpAny_bind ?_
  rw [KPc.range_list]
  refine KPc.start ?_
  intro _ _
  refine KPc.turn ?_; kpc_check; (repeat kpc_if)
  refine wpAny_bind ?_; refine wpAny_holding ?_; (repeat kpc_if)
  refine wpAny_bind (hv _ _ ?_)
  intro k
  (repeat kpc_if)
  refine pure_to (a' := (rawText x 0, none, true)) rfl ?_
  refine after_list (K := 6000) (sg := false) (pr := 0) (by kpc_g) (laid_len x 0 (by decide) false) ?_
  intro _ _
  kpt_turns
def G01 : PySem.Str := ⟨#[37, 43, 46, 48, 102, 32, 37, 115]⟩
theorem pc01 (b : Addr) (x : UInt64) (v : Value) (hv : GivesF x v) (u : PySem.Str) (tu t : Tok) (hu : u.length ≤ 3) : Meets («str.__mod__» ⟨[.str G01 t, .ref b], []⟩) (fun _ R s => IsTup s.heap b #[v, .str u tu] ∧ ∀ t' k, R (.ok (.ret (.str (fText x 0 true ++ Str.ofString " " ++ u) t'))) { s with toks := k }) := by
  apply KPt.meets_tup
  intro _ _ _ _ _ _ kptH _
  obtain ⟨kptO, kptG, kptC, kptN, kptD⟩ := kptH
  rw [KPt.entry_is_r]
  unfold Builtin.Str.percentFormat
  refine wpAny_bind (wpAny_isInstance (T := "tuple") ⟨kptO, kptG, kptC⟩ KPt.sub_tt ?_)
  refine wpAny_bind (KPt.asStr_ref kptG kptD ?_)
  refine wpAny_bind (KPt.fills_ref ⟨kptO, kptG, kptC⟩ ?_)
  intro _
  kpc_if
  refine wpAny_bind (wpAny_seqItems kptG kptD ?_)
  refine wpAny_bind (wpAny_pure ?_)
  refine wpAny_bind ?_
  rw [KPc.range_list]
  refine KPc.start ?_
  intro _ _
  refine KPc.turn ?_; kpc_check; (repeat kpc_if)
  refine wpAny_bind ?_; refine wpAny_holding ?_; (repeat kpc_if)
  refine wpAny_bind (hv _ _ ?_)
  intro k
  (repeat kpc_if)
  refine pure_to (a' := (rawText x 0, none, true)) rfl ?_
  refine after_list (K := 6000) (sg := true) (pr := 0) (by kpc_g) (laid_len x 0 (by decide) true) ?_
  intro _ _
  kpt_turns
section
variable {prog : Program} {w : World} {A : Around} {E : Value → Shared → Prop} {s : Shared} {X u : PySem.Str} {t tu : Tok} {Q : Value → Shared → Prop} {b L : Addr} {n : Nat} {h₀ : Heap} {news : List (Addr × Obj)} {x : UInt64} {v : Value}
theorem mod10 (N : News h₀ L s.heap news) (hb : (b, ({ cls := .type "tuple", data := .seq #[v, .str u tu] n } : Obj)) ∈ news) (hX : X = G10) (hv : GivesF x v) (hu : u.length ≤ 3)
    (h : ∀ t' k, Q (.str (fText x 1 false ++ Str.ofString " " ++ u) t') { s with toks := k }) : wpAny (model prog w) A (binaryOp .Mod (.str X t) (.ref b)) Q E s :=
  KPt.mod_tuple N hb hX (pc10 b x v hv u tu t hu) h
theorem mod11 (N : News h₀ L s.heap news) (hb : (b, ({ cls := .type "tuple", data := .seq #[v, .str u tu] n } : Obj)) ∈ news) (hX : X = G11) (hv : GivesF x v) (hu : u.length ≤ 3)
    (h : ∀ t' k, Q (.str (fText x 1 true ++ Str.ofString " " ++ u) t') { s with toks := k }) : wpAny (model prog w) A (binaryOp .Mod (.str X t) (.ref b)) Q E s :=
  KPt.mod_tuple N hb hX (pc11 b x v hv u tu t hu) h
theorem mod00 (N : News h₀ L s.heap news) (hb : (b, ({ cls := .type "tuple", data := .seq #[v, .str u tu] n } : Obj)) ∈ news) (hX : X = G00) (hv : GivesF x v) (hu : u.length ≤ 3)
    (h : ∀ t' k, Q (.str (fText x 0 false ++ Str.ofString " " ++ u) t') { s with toks := k }) : wpAny (model prog w) A (binaryOp .Mod (.str X t) (.ref b)) Q E s :=
  KPt.mod_tuple N hb hX (pc00 b x v hv u tu t hu) h
theorem mod01 (N : News h₀ L s.heap news) (hb : (b, ({ cls := .type "tuple", data := .seq #[v, .str u tu] n } : Obj)) ∈ news) (hX : X = G01) (hv : GivesF x v) (hu : u.length ≤ 3)
    (h : ∀ t' k, Q (.str (fText x 0 true ++ Str.ofString " " ++ u) t') { s with toks := k }) : wpAny (model prog w) A (binaryOp .Mod (.str X t) (.ref b)) Q E s :=
  KPt.mod_tuple N hb hX (pc01 b x v hv u tu t hu) h
end
end Mine
end

-- part Fs
section
open PySem PySem.W PyProof.Rows
set_option maxRecDepth 100000
set_option maxHeartbeats 8000000
namespace Mine
def FsEnd (h : Heap) (X : Str) (s : Shared) (f : Flow) (s' : Shared) : Prop :=
  ∃ t h' tk, f = .ret (.str X t) ∧ s' = { s with heap := h', toks := tk } ∧ ∀ b o, h.get? b = some o → h'.get? b = some o
theorem enter_keep {prog : Program} {w : World} {A : Around} {s : Shared} {K : Frag} {name qual : Str} {params : Arguments} {body : List Stmt} {scope : Scope} {dV kV doc pm cdv ct oc : Value} {an od : Option Addr} {osl : Array (Option Value)} {f : Addr} {args : List Value} {binds : List (Str × Value)} {Q E : Value → Shared → Prop} {P : Flow → Shared → Prop}
    (X : K.In s.heap) (hlim : s.heap.NoLimit) (ho : K.lookup f = some ⟨oc, od, .func (fnOf name qual params body scope dV kV doc pm an cdv ct), osl⟩) (hcd : codeIn K cdv qual = true) (hroom : A.depth < recursionLimit)
    (hbind : BindsTo s (fnOf name qual params body scope dV kV doc pm an cdv ct) ⟨args, []⟩ binds) (hloc : ∀ y ∈ binds, scope.names.lookup y.1 = some .local)
    (h : ∀ h₁, Fr s.heap s.heap.objs.size h₁ (fun y => binds.reverse.lookup y) → News s.heap s.heap.objs.size h₁ [] →
      wpAny (model prog w) (A.deeper (envOf qual scope s.heap.objs.size f cdv)) (execs body (envOf qual scope s.heap.objs.size f cdv)) P (fun _ _ => False) { s with heap := h₁, toks := s.toks + binds.length })
    (hP : ∀ fl s', P fl s' → Q (match fl with | .ret v => v | _ => .none) s')
    (hco : scope.isCoroutine = false) (hgen : scope.isGenerator = false) (hk : scope.kind = .function) (hcell : ∀ x ∈ scope.names, x.2 ≠ .cell) :
    wpAny (model prog w) A (call (.ref f) args) Q E s := by
  refine wpAny_call ?_
  refine codeAny_call_def (fd := fnOf name qual params body scope dV kV doc pm an cdv ct) hroom (X _ _ ho) rfl hlim (codeRec_of X hcd) rfl hbind hcell hloc (fun h₁ hns hk₁ => ?_) hco hgen hk
  exact wpAny_mono (h h₁ ⟨hns, hk₁, Nat.le_refl _⟩ News.nil) (fun fl s' p => hP fl s' p) (fun _ _ e => e.elim)
def ltF (x : UInt64) (k : Int) : Bool := Float64.cmpInt (Float64.abs x) k == some .lt
def fmtF (sg : Bool) : List Str → UInt64 → Str
  | [], _ => Str.empty
  | u :: us, x => if ltF x 100 then fText x 1 sg ++ Str.ofString " " ++ u else if ltF x 10240 then fText x 0 sg ++ Str.ofString " " ++ u
    else if us.isEmpty then fText x 0 sg ++ Str.ofString " " ++ u else fmtF sg us (Float64.div x (Float64.ofInt 1024))
abbrev firstF (n : Int) : UInt64 := Float64.ofFrac (decide (n < 0) != decide ((1024 : Int) < 0)) n.natAbs (Int.natAbs 1024)
def fmt (n : Int) (sg : Bool) : Str :=
  if n.natAbs < 10240 then fText (Float64.ofInt n) 0 sg ++ Str.ofString " " ++ Str.ofString "B"
  else fmtF sg [Str.ofString "KiB", Str.ofString "MiB", Str.ofString "GiB", Str.ofString "TiB"] (firstF n)
theorem absI (n : Int) : (if n < 0 then -n else n) = (n.natAbs : Int) := by split <;> omega
theorem fmt_B {n : Int} {sg : Bool} (h : (if n < 0 then -n else n) < 10 * 1024) : fText (Float64.ofInt n) 0 sg ++ Str.ofString " " ++ Str.ofString "B" = fmt n sg := by
  rw [absI] at h
  unfold fmt
  rw [if_pos (by omega)]
theorem fmt_B2 {n : Int} {sg : Bool} (h : (if n < 0 then -n else n) < 100) : fText (Float64.ofInt n) 0 sg ++ Str.ofString " " ++ Str.ofString "B" = fmt n sg := fmt_B (by omega)
theorem fmt_big {n : Int} {sg : Bool} {V : Str} (h : ¬ (if n < 0 then -n else n) < 10 * 1024) (e : V = fmtF sg [Str.ofString "KiB", Str.ofString "MiB", Str.ofString "GiB", Str.ofString "TiB"] (firstF n)) : V = fmt n sg := by
  rw [absI] at h
  unfold fmt
  rw [if_neg (by omega)]
  exact e
theorem fmtF_1 {x : UInt64} {sg : Bool} {u : Str} {us : List Str} (h : (Float64.cmpInt (Float64.abs x) 100 == some .lt) = true) : fText x 1 sg ++ Str.ofString " " ++ u = fmtF sg (u :: us) x := by
  have h' : ltF x 100 = true := h
  simp only [fmtF, h', if_true]
theorem fmtF_2 {x : UInt64} {sg : Bool} {u : Str} {us : List Str} (h : (Float64.cmpInt (Float64.abs x) 100 == some .lt) = false) (h2 : (Float64.cmpInt (Float64.abs x) (10 * 1024) == some .lt) = true) : fText x 0 sg ++ Str.ofString " " ++ u = fmtF sg (u :: us) x := by
  have h' : ltF x 100 = false := h
  have h2' : ltF x 10240 = true := h2
  simp only [fmtF, h', h2', if_true, Bool.false_eq_true, if_false]
theorem fmtF_3 {x : UInt64} {sg : Bool} {u v : Str} {us : List Str} {V : Str} (h : (Float64.cmpInt (Float64.abs x) 100 == some .lt) = false) (h2 : (Float64.cmpInt (Float64.abs x) (10 * 1024) == some .lt) = false) (e : V = fmtF sg (v :: us) (Float64.div x (Float64.ofInt 1024))) : V = fmtF sg (u :: v :: us) x := by
  have h' : ltF x 100 = false := h
  have h2' : ltF x 10240 = false := h2
  rw [e, fmtF.eq_def sg (u :: v :: us)]
  simp only [h', h2', Bool.false_eq_true, if_false, List.isEmpty_cons]
theorem fmtF_4 {x : UInt64} {sg : Bool} {u : Str} (h : (Float64.cmpInt (Float64.abs x) 100 == some .lt) = false) : fText x 0 sg ++ Str.ofString " " ++ u = fmtF sg [u] x := by
  have h' : ltF x 100 = false := h
  simp only [fmtF, h', Bool.false_eq_true, if_false, List.isEmpty_nil, if_true]
  split <;> rfl
theorem fs_doneS {h h' : Heap} {L : Addr} {m : Str → Option Value} {n : Int} {sg b : Bool} {V : Str} {s : Shared} {t : Tok} {tk : Nat} (F : Fr h L h' m) (hs : sg = b) (e : V = fmt n b) : FsEnd h (fmt n sg) s (.ret (.str V t)) { s with heap := h', toks := tk } :=
  ⟨t, h', tk, by rw [e, hs], rfl, F.keep⟩
theorem fs_done {h h' : Heap} {L : Addr} {m : Str → Option Value} {X V : Str} {s : Shared} {t : Tok} {tk : Nat} (F : Fr h L h' m) (e : V = X) : FsEnd h X s (.ret (.str V t)) { s with heap := h', toks := tk } :=
  ⟨t, h', tk, by rw [e], rfl, F.keep⟩
section
variable {prog : Program} {w : World} {A : Around} {E : Value → Shared → Prop} {s : Shared} {t u : Tok} {Q : Value → Shared → Prop}
theorem fdiv1024 {x : UInt64}
    (h2 : Q (.float (Float64.div x (Float64.ofInt 1024)) s.toks) { s with toks := s.toks + 1 }) : wpAny (model prog w) A (inplaceOp .Div (.float x t) (.int 1024 u)) Q E s :=
  Flt.itruediv_fi_2 (by decide +kernel) (by decide +kernel) h2
end
local macro_rules | `(tactic| walk_at "inplaceOp Div float int") => `(tactic| (k_here; (refine' fdiv1024 ?_; k_whole)))
local macro_rules | `(tactic| walk_at "binaryOp Mod str ref") => `(tactic| (k_here; (first
  | (refine' mod10 ?kN ?kb ?kF ?kv ?ku ?_; (case kF => decide +kernel); (case kN => k_asm); (case kb => k_mem); (case kv => first | exact gives_float _ _ | exact gives_int _ _ (by assumption)); (case ku => decide +kernel); intro _ _)
  | (refine' mod11 ?kN ?kb ?kF ?kv ?ku ?_; (case kF => decide +kernel); (case kN => k_asm); (case kb => k_mem); (case kv => first | exact gives_float _ _ | exact gives_int _ _ (by assumption)); (case ku => decide +kernel); intro _ _)
  | (refine' mod00 ?kN ?kb ?kF ?kv ?ku ?_; (case kF => decide +kernel); (case kN => k_asm); (case kb => k_mem); (case kv => first | exact gives_float _ _ | exact gives_int _ _ (by assumption)); (case ku => decide +kernel); intro _ _)
  | (refine' mod01 ?kN ?kb ?kF ?kv ?ku ?_; (case kF => decide +kernel); (case kN => k_asm); (case kb => k_mem); (case kv => first | exact gives_float _ _ | exact gives_int _ _ (by assumption)); (case ku => decide +kernel); intro _ _))))
theorem fs_call (w : World) {mean : ExcName → Option Value} {mg mb : Str → Option Value} {n : Int} {t : Tok} {sg : Bool} {dp un : Nat} {fr : Option (List Env)} {gd : Option (List Code)} {s : Shared} {Q E : Value → Shared → Prop}
    (X : (hd0231.heap_39 w.params).In s.heap) (T : Top hd0231.view_39 (looseW hd0231.view_39 []) mean mg mb s.heap) (hroom : dp + 1 < recursionLimit) (hn : n.natAbs < 2 ^ 1023) (hn2 : ¬ Float64.isInf (Float64.ofInt n) = true)
    (h : ∀ t' h' tk, (∀ b o, s.heap.get? b = some o → h'.get? b = some o) → Q (.str (fmt n sg) t') { s with heap := h', toks := tk }) :
    wpAny (model Challenge.rw_dn0231_01.row.prog w) ⟨none, dp, fr, gd, un⟩ (call (.ref 21) [.int n t, .bool sg]) Q E s := by
  w_on
  w_top on
  revert X; k_fill; intro X
  k_dflt (refine' enter_keep (P := FsEnd s.heap (fmt n sg) s) X T.nolimit ?k6 ?k7 (Nat.lt_of_succ_lt hroom) ?k9 ?kB ?kb ?kP ?c2 ?c3 ?c4 ?c5; (case k6 => k_is); (case k7 => k_is); (case k9 => exact BindsTo.of_eq rfl); (case c5 => decide); (case kB => exact locs rfl); (case c2 => exact rfl); (case c3 => exact rfl); (case c4 => exact rfl))
  case kP =>
    rintro f s' ⟨t', h', tk, rfl, rfl, hk⟩
    exact h t' h' tk hk
  case kb =>
    intro h' F' N'
    dsimp only
    clear h
    w_strict (repeat' (first
      | ((with_reducible show FsEnd _ _ _ _ _); refine fs_doneS (by with_reducible assumption) (by with_reducible assumption) ?_; with_reducible first | exact fmt_B (by assumption) | exact fmt_B2 (by assumption) | (refine fmt_big (by assumption) ?_; (repeat (refine fmtF_3 (by assumption) (by assumption) ?_)); first | exact fmtF_1 (by assumption) | exact fmtF_2 (by assumption) (by assumption) | exact fmtF_4 (by assumption)) )
      | walk1 | (dsimp only; walk1) | (leave1; walk_say "STEP leave1"; try dsimp only) | fail "no step"))
end Mine
end

-- part Lp
section
open PySem PySem.W PyProof.Rows
set_option maxRecDepth 100000
set_option maxHeartbeats 1000000
namespace Mine
abbrev IsZip1 (h : Heap) (z TI TO T1 : Addr) (b : Bool) : Prop :=
  h.get? z = some { cls := .type "zip", dict := none, data := .fields #[rawInt T1, .bool b, .bool false, .ref TI, .ref TO], slots := #[] }
def ZSt (W : List Addr) (h : Heap) (z TI TO : Addr) : Prop := IsZip h z TI TO .none ∨ ∃ T1 b, IsZip1 h z TI TO T1 b ∧ (∃ o, h.get? T1 = some o) ∧ T1 ∉ W
section
variable {prog : Program} {w : World} {A : Around} {E : Value → Shared → Prop} {s : Shared}
theorem wpAny_alive {a : Addr} {Q : Option Obj → Shared → Prop} (h : Q (s.heap.get? a) s) : wpAny (model prog w) A (loadIfAlive a) Q E s := by
  intro Γ p _
  unfold loadIfAlive
  rw [Sem.wp_loadIfAlive]
  exact (Sem.wp_pure ..).symm ▸ h
theorem zip_again {z TI TO i1 i2 l1 l2 T1 : Addr} {bb : Bool} {k1 k2 : Nat} {xs ys : Array Value} {x y : Value} {Q : Value → Shared → Prop} (D : ZipApart z TI TO i1 i2 l1 l2)
    (hz : IsZip1 s.heap z TI TO T1 bb) (hT1 : ∃ o, s.heap.get? T1 = some o) (hTI : IsPair s.heap TI (.ref i1) (.ref i2))
    (h1 : s.heap.IsListIter i1 l1 k1) (h2 : s.heap.IsListIter i2 l2 k2) (hl1 : s.heap.IsList l1 xs) (hl2 : s.heap.IsList l2 ys) (hx : xs[k1]? = some x) (hy : ys[k2]? = some y)
    (hQ : ∀ h', IsZip1 h' z TI TO T1 true → h'.IsListIter i1 l1 (k1 + 1) → h'.IsListIter i2 l2 (k2 + 1) → IsPair h' s.heap.objs.size x y → h'.objs.size = s.heap.objs.size + 1 →
      (∀ c o, c ≠ z → c ≠ i1 → c ≠ i2 → s.heap.get? c = some o → h'.get? c = some o) → Q (.ref s.heap.objs.size) { s with heap := h' }) :
    wpAny (model prog w) A (Builtin.«zip.__next__» ⟨[.ref z], []⟩) (fun fin s' => ∃ v, fin = .done (.ret v) ∧ Q v s') E s := by
  show wpAny _ _ (field (.ref z) 2 >>= _) _ _ _
  refine wpAny_bind (wpAny_field hz rfl (x := .bool false) rfl ?_)
  show wpAny _ _ (field (.ref z) 3 >>= _) _ _ _
  refine wpAny_bind (wpAny_field hz rfl (x := .ref TI) rfl ?_)
  refine wpAny_bind (wpAny_seqItems hTI rfl ?_)
  show wpAny _ _ (Builtin.SmallTypes.ownedTupleIsFree (.ref z) >>= _) _ _ _
  refine wpAny_bind ?_
  unfold Builtin.SmallTypes.ownedTupleIsFree
  refine wpAny_bind (wpAny_field hz rfl (x := rawInt T1) rfl ?_)
  show wpAny _ _ (loadIfAlive ((T1 : Int)).toNat >>= _) _ _ _
  obtain ⟨oT, hoT⟩ := hT1
  refine wpAny_bind (wpAny_alive ?_)
  rw [Int.toNat_natCast, hoT]
  refine wpAny_mono (Q := fun a s' => a = false ∧ ∃ h₁, s' = { s with heap := h₁ } ∧ IsZip1 h₁ z TI TO T1 true ∧ Heap.SameBut z s.heap h₁) ?_ ?_ fun _ _ e => e
  · rw [if_neg (by simp)]
    refine wpAny_bind (wpAny_field hz rfl (x := .bool bb) rfl ?_)
    cases bb with
    | true => exact wpAny_pure ⟨rfl, s.heap, rfl, hz, Heap.SameBut.refl ..⟩
    | false =>
      refine wpAny_bind (wpAny_setField_rec hz (by simp) fun h₁ hz₁ hs₁ => wpAny_pure ⟨rfl, h₁, rfl, hz₁, hs₁⟩)
  · rintro _ _ ⟨rfl, h₁, rfl, hz₁, hs₁⟩
    rw [if_neg Bool.false_ne_true]
    refine wpAny_bind ?_
    rw [← Array.forIn_toList]
    simp only [List.forIn_cons, List.forIn_nil]
    refine wpAny_bind (wpAny_bind (wpAny_holding ?_))
    show wpAny _ _ (Builtin.SmallTypes.nextOf (.ref i1) >>= _) _ _ _
    refine wpAny_bind (wpAny_nextOf_list_item (h1.extBut hs₁.extBut D.i1z) (hl1.extBut hs₁.extBut D.l1z) hx fun h₂ h1₂ hs₂ => wpAny_pure (wpAny_pure ?_))
    refine wpAny_bind (wpAny_bind (wpAny_holding ?_))
    show wpAny _ _ (Builtin.SmallTypes.nextOf (.ref i2) >>= _) _ _ _
    refine wpAny_bind (wpAny_nextOf_list_item ((h2.extBut hs₁.extBut D.i2z).extBut hs₂.extBut D.i12.symm)
      ((hl2.extBut hs₁.extBut D.l2z).extBut hs₂.extBut D.l2i1) hy fun h₃ h2₃ hs₃ => wpAny_pure (wpAny_pure (wpAny_pure ?_)))
    refine wpAny_bind (wpAny_newTuple (hsz := by show 2 ≤ sizeLine; rw [sizeLine_eq]; decide) (wpAny_pure ⟨_, rfl, ?_⟩))
    have hsz : h₃.objs.size = s.heap.objs.size := by rw [hs₃.1, hs₂.1, hs₁.1]
    show Q (.ref h₃.objs.size) { s with heap := h₃.push { cls := .type "tuple", data := .seq #[x, y] } }
    have hz₃ : IsZip1 h₃ z TI TO T1 true := hs₃.extBut _ _ D.i2z.symm (hs₂.extBut _ _ D.i1z.symm hz₁)
    have h1₃ : h₃.IsListIter i1 l1 (k1 + 1) := h1₂.extBut hs₃.extBut D.i12
    have up : ∀ c o, h₃.get? c = some o → (h₃.push { cls := .type "tuple", data := .seq #[x, y] }).get? c = some o := fun c o e => Heap.get?_push_of_some _ e
    rw [hsz]
    refine hQ _ (up _ _ hz₃) (h1₃.at fun o e => up _ o e) (h2₃.at fun o e => up _ o e) ?_ (by rw [Heap.size_push, hsz]) fun c o c1 c2 c3 e => up c o (hs₃.extBut _ _ c3 (hs₂.extBut _ _ c2 (hs₁.extBut _ _ c1 e)))
    rw [← hsz]
    exact Heap.get?_push_size _ rfl
theorem zip_again_end {z TI TO i1 i2 l1 l2 T1 : Addr} {bb : Bool} {k1 k2 : Nat} {xs ys : Array Value} {Q : PySem.Fin → Shared → Prop} (hh : A.handled = none) (D : ZipApart z TI TO i1 i2 l1 l2)
    (hz : IsZip1 s.heap z TI TO T1 bb) (hT1 : ∃ o, s.heap.get? T1 = some o) (hTI : IsPair s.heap TI (.ref i1) (.ref i2))
    (h1 : s.heap.IsListIter i1 l1 k1) (h2 : s.heap.IsListIter i2 l2 k2) (hl1 : s.heap.IsList l1 xs) (hl2 : s.heap.IsList l2 ys) (hend : xs[k1]? = none ∨ ys[k2]? = none)
    (hE : ∀ h' e, (∀ c o, c ≠ z → c ≠ TO → c ≠ i1 → c ≠ i2 → s.heap.get? c = some o → h'.get? c = some o) → (∃ o, h'.get? e = some o ∧ o.cls = .type "StopIteration") → E (.ref e) { s with heap := h' }) :
    wpAny (model prog w) A (Builtin.«zip.__next__» ⟨[.ref z], []⟩) Q E s := by
  show wpAny _ _ (field (.ref z) 2 >>= _) _ _ _
  refine wpAny_bind (wpAny_field hz rfl (x := .bool false) rfl ?_)
  show wpAny _ _ (field (.ref z) 3 >>= _) _ _ _
  refine wpAny_bind (wpAny_field hz rfl (x := .ref TI) rfl ?_)
  refine wpAny_bind (wpAny_seqItems hTI rfl ?_)
  show wpAny _ _ (Builtin.SmallTypes.ownedTupleIsFree (.ref z) >>= _) _ _ _
  refine wpAny_bind ?_
  unfold Builtin.SmallTypes.ownedTupleIsFree
  refine wpAny_bind (wpAny_field hz rfl (x := rawInt T1) rfl ?_)
  show wpAny _ _ (loadIfAlive ((T1 : Int)).toNat >>= _) _ _ _
  obtain ⟨oT, hoT⟩ := hT1
  refine wpAny_bind (wpAny_alive ?_)
  rw [Int.toNat_natCast, hoT]
  refine wpAny_mono (Q := fun a s' => a = false ∧ ∃ h₁, s' = { s with heap := h₁ } ∧ IsZip1 h₁ z TI TO T1 true ∧ Heap.SameBut z s.heap h₁) ?_ ?_ fun _ _ e => e
  · rw [if_neg (by simp)]
    refine wpAny_bind (wpAny_field hz rfl (x := .bool bb) rfl ?_)
    cases bb with
    | true => exact wpAny_pure ⟨rfl, s.heap, rfl, hz, Heap.SameBut.refl ..⟩
    | false =>
      refine wpAny_bind (wpAny_setField_rec hz (by simp) fun h₁ hz₁ hs₁ => wpAny_pure ⟨rfl, h₁, rfl, hz₁, hs₁⟩)
  · rintro _ _ ⟨rfl, h₁, rfl, hz₁, hs₁⟩
    rw [if_neg Bool.false_ne_true]
    refine wpAny_bind ?_
    rw [← Array.forIn_toList]
    simp only [List.forIn_cons, List.forIn_nil]
    refine wpAny_bind (wpAny_bind (wpAny_holding ?_))
    show wpAny _ _ (Builtin.SmallTypes.nextOf (.ref i1) >>= _) _ _ _
    cases hx : xs[k1]? with
    | none =>
      refine wpAny_bind (wpAny_nextOf_list_end hh (h1.extBut hs₁.extBut D.i1z) (hl1.extBut hs₁.extBut D.l1z) hx fun h₂ e hs₂ he => ?_)
      exact hE h₂ e (fun c o c1 _ c3 _ x => hs₂ _ _ c3 (hs₁.extBut _ _ c1 x)) he
    | some x =>
      have hy : ys[k2]? = none := by rcases hend with h | h; rw [hx] at h; cases h; exact h
      refine wpAny_bind (wpAny_nextOf_list_item (h1.extBut hs₁.extBut D.i1z) (hl1.extBut hs₁.extBut D.l1z) hx fun h₂ h1₂ hs₂ => wpAny_pure (wpAny_pure ?_))
      refine wpAny_bind (wpAny_bind (wpAny_holding ?_))
      show wpAny _ _ (Builtin.SmallTypes.nextOf (.ref i2) >>= _) _ _ _
      refine wpAny_bind (wpAny_nextOf_list_end hh ((h2.extBut hs₁.extBut D.i2z).extBut hs₂.extBut D.i12.symm)
        ((hl2.extBut hs₁.extBut D.l2z).extBut hs₂.extBut D.l2i1) hy fun h₃ e hs₃ he => ?_)
      exact hE h₃ e (fun c o c1 _ c3 c4 x => hs₃ _ _ c4 (hs₂.extBut _ _ c3 (hs₁.extBut _ _ c1 x))) he

/-- the zip's next, as enumerate asks it -/
theorem nextOf_zip {W : List Addr} {z TI TO i1 i2 l1 l2 : Addr} {k : Nat} {xs ys : Array Value} {x y : Value} {Q : Value → Shared → Prop} (D : ZipApart z TI TO i1 i2 l1 l2) (hW : ∀ a ∈ W, a < s.heap.objs.size) (hWz : z ∈ W) (hWT : TO ∈ W) (hW1 : i1 ∈ W) (hW2 : i2 ∈ W)
    (hz : ZSt W s.heap z TI TO) (hTI : IsPair s.heap TI (.ref i1) (.ref i2)) (hTO : ∃ a b, IsPair s.heap TO a b)
    (h1 : s.heap.IsListIter i1 l1 k) (h2 : s.heap.IsListIter i2 l2 k) (hl1 : s.heap.IsList l1 xs) (hl2 : s.heap.IsList l2 ys) (hx : xs[k]? = some x) (hy : ys[k]? = some y)
    (hQ : ∀ h', ZSt W h' z TI TO → (∃ a b, IsPair h' TO a b) → h'.IsListIter i1 l1 (k + 1) → h'.IsListIter i2 l2 (k + 1) → IsPair h' s.heap.objs.size x y → h'.objs.size = s.heap.objs.size + 1 →
      (∀ c o, c ≠ z → c ≠ TO → c ≠ i1 → c ≠ i2 → s.heap.get? c = some o → h'.get? c = some o) → Q (.ref s.heap.objs.size) { s with heap := h' }) :
    wpAny (model prog w) A (Builtin.SmallTypes.nextOf (.ref z)) Q E s := by
  have hT : s.TypeIs (.ref z) "zip" := by
    rcases hz with hz | ⟨T1, b, hz, _⟩
    · exact ⟨_, hz, rfl⟩
    · exact ⟨_, hz, rfl⟩
  unfold Builtin.SmallTypes.nextOf
  refine wpAny_bind (wpAny_callSpecial?_slot (name := Str.ofString "__next__") hT F.slot_zip_next
    (wpAny_call_entry F.slot_zip_next hT F.entry_zip_next ?_ (F.args_zip_next_1 _)))
  obtain ⟨a, b, hTO⟩ := hTO
  rcases hz with hz | ⟨T1, bb, hz, hT1, hT1W⟩
  · refine zip_next_item D hz hTI hTO h1 h2 hl1 hl2 hx hy fun h' z' TO' a1 a2 a5 sz kp => wpAny_pure (hQ h' (.inr ⟨s.heap.objs.size, false, z', ⟨_, a5⟩, fun hm => Nat.lt_irrefl _ (hW _ hm)⟩) ⟨_, _, TO'⟩ a1 a2 a5 sz kp)
  · refine zip_again D hz hT1 hTI h1 h2 hl1 hl2 hx hy fun h' z' a1 a2 a5 sz kp => wpAny_pure (hQ h' (.inr ⟨T1, true, z', ?_, hT1W⟩) ⟨a, b, kp _ _ D.TOz D.TOi1 D.TOi2 hTO⟩ a1 a2 a5 sz fun c o c1 _ c3 c4 e => kp c o c1 c3 c4 e)
    obtain ⟨o, ho⟩ := hT1
    exact ⟨o, kp _ _ (fun q => hT1W (q ▸ hWz)) (fun q => hT1W (q ▸ hW1)) (fun q => hT1W (q ▸ hW2)) ho⟩
theorem nextOf_zip_end {W : List Addr} {z TI TO i1 i2 l1 l2 : Addr} {k : Nat} {xs ys : Array Value} {Q : Value → Shared → Prop} (hh : A.handled = none) (D : ZipApart z TI TO i1 i2 l1 l2)
    (hz : ZSt W s.heap z TI TO) (hTI : IsPair s.heap TI (.ref i1) (.ref i2)) (hTO : ∃ a b, IsPair s.heap TO a b)
    (h1 : s.heap.IsListIter i1 l1 k) (h2 : s.heap.IsListIter i2 l2 k) (hl1 : s.heap.IsList l1 xs) (hl2 : s.heap.IsList l2 ys) (hend : xs[k]? = none ∨ ys[k]? = none)
    (hE : ∀ h' e, (∀ c o, c ≠ z → c ≠ TO → c ≠ i1 → c ≠ i2 → s.heap.get? c = some o → h'.get? c = some o) → (∃ o, h'.get? e = some o ∧ o.cls = .type "StopIteration") → E (.ref e) { s with heap := h' }) :
    wpAny (model prog w) A (Builtin.SmallTypes.nextOf (.ref z)) Q E s := by
  have hT : s.TypeIs (.ref z) "zip" := by
    rcases hz with hz | ⟨T1, b, hz, _⟩
    · exact ⟨_, hz, rfl⟩
    · exact ⟨_, hz, rfl⟩
  unfold Builtin.SmallTypes.nextOf
  refine wpAny_bind (wpAny_callSpecial?_slot (name := Str.ofString "__next__") hT F.slot_zip_next
    (wpAny_call_entry F.slot_zip_next hT F.entry_zip_next ?_ (F.args_zip_next_1 _)))
  obtain ⟨a, b, hTO⟩ := hTO
  rcases hz with hz | ⟨T1, bb, hz, hT1, hT1W⟩
  · exact zip_next_end hh D hz hTI hTO h1 h2 hl1 hl2 hend hE
  · exact zip_again_end hh D hz hT1 hTI h1 h2 hl1 hl2 hend hE
/-- what the loop's iterator looks like ahead of turn i -/
structure EZ (W : List Addr) (h : Heap) (e z TI TO i1 i2 l1 l2 : Addr) (xs ys : Array Value) (i : Nat) : Prop where
  zst : ZSt W h z TI TO
  ti : IsPair h TI (.ref i1) (.ref i2)
  to : ∃ a b, IsPair h TO a b
  it1 : h.IsListIter i1 l1 i
  it2 : h.IsListIter i2 l2 i
  ls1 : h.IsList l1 xs
  ls2 : h.IsList l2 ys
theorem EZ.keeps {W : List Addr} {h h' : Heap} {e z TI TO i1 i2 l1 l2 : Addr} {xs ys : Array Value} {i : Nat} (Z : EZ W h e z TI TO i1 i2 l1 l2 xs ys i) (bad : List Addr) (hb : ∀ a ∈ bad, a ∈ W)
    (hz : z ∉ bad) (hTI : TI ∉ bad) (hTO : TO ∉ bad) (h1 : i1 ∉ bad) (h2 : i2 ∉ bad) (hl1 : l1 ∉ bad) (hl2 : l2 ∉ bad)
    (hk : ∀ b o, b ∉ bad → h.get? b = some o → h'.get? b = some o) : EZ W h' e z TI TO i1 i2 l1 l2 xs ys i where
  zst := by
    rcases Z.zst with x | ⟨T1, b, x, ⟨o, ho⟩, n⟩
    · exact .inl (hk _ _ hz x)
    · exact .inr ⟨T1, b, hk _ _ hz x, ⟨o, hk _ _ (fun q => n (hb _ q)) ho⟩, n⟩
  ti := hk _ _ hTI Z.ti
  to := let ⟨a, b, x⟩ := Z.to; ⟨a, b, hk _ _ hTO x⟩
  it1 := Z.it1.at fun o x => hk _ o h1 x
  it2 := Z.it2.at fun o x => hk _ o h2 x
  ls1 := Z.ls1.at fun o x => hk _ o hl1 x
  ls2 := Z.ls2.at fun o x => hk _ o hl2 x
structure Apart (e z TI TO i1 i2 l1 l2 : Addr) : Prop extends ZipApart z TI TO i1 i2 l1 l2 where
  ez : e ≠ z
  eTI : e ≠ TI
  eTO : e ≠ TO
  ei1 : e ≠ i1
  ei2 : e ≠ i2
  el1 : e ≠ l1
  el2 : e ≠ l2
theorem enumz_next {W : List Addr} {e z TI TO i1 i2 l1 l2 : Addr} {i : Nat} {xs ys : Array Value} {x y old : Value} {Q : Value → Shared → Prop} (D : Apart e z TI TO i1 i2 l1 l2)
    (hW : ∀ a ∈ W, a < s.heap.objs.size) (hWe : e ∈ W) (hWz : z ∈ W) (hWT : TO ∈ W) (hW1 : i1 ∈ W) (hW2 : i2 ∈ W)
    (he : IsEnum s.heap e z i old) (Z : EZ W s.heap e z TI TO i1 i2 l1 l2 xs ys i) (hx : xs[i]? = some x) (hy : ys[i]? = some y)
    (hQ : ∀ h', IsEnumOut h' e z ((i : Int) + 1) (.ref s.heap.objs.size) (s.heap.objs.size + 1) → EZ W h' e z TI TO i1 i2 l1 l2 xs ys (i + 1) →
      IsPair h' s.heap.objs.size x y → IsPair h' (s.heap.objs.size + 1) (.int i s.toks) (.ref s.heap.objs.size) → h'.objs.size = s.heap.objs.size + 2 →
      (∀ c o, c ≠ e → c ≠ z → c ≠ TO → c ≠ i1 → c ≠ i2 → s.heap.get? c = some o → h'.get? c = some o) → Q (.ref (s.heap.objs.size + 1)) { s with heap := h', toks := s.toks + 1 }) :
    wpAny (model prog w) A (Builtin.«enumerate.__next__» ⟨[.ref e], []⟩) (fun fin s' => ∃ v, fin = .done (.ret v) ∧ Q v s') E s := by
  obtain ⟨hp, g, d, tk, os⟩ := s
  show wpAny _ _ (field (.ref e) 2 >>= _) _ _ _
  refine wpAny_bind (wpAny_field he rfl (x := .ref z) rfl ?_)
  refine wpAny_bind (nextOf_zip D.toZipApart hW hWz hWT hW1 hW2 Z.zst Z.ti Z.to Z.it1 Z.it2 Z.ls1 Z.ls2 hx hy fun h₁ zst₁ to₁ it1₁ it2₁ T₁ sz₁ kp₁ => ?_)
  replace sz₁ : h₁.objs.size = hp.objs.size + 1 := sz₁
  replace T₁ : IsPair h₁ hp.objs.size x y := T₁
  have he₁ : IsEnum h₁ e z i old := kp₁ _ _ D.ez D.eTO D.ei1 D.ei2 he
  have Z₁ : EZ W h₁ e z TI TO i1 i2 l1 l2 xs ys (i + 1) := ⟨zst₁, kp₁ _ _ D.TIz D.TITO D.TIi1 D.TIi2 Z.ti, to₁, it1₁, it2₁, Z.ls1.at fun o q => kp₁ _ o D.l1z D.l1TO D.l1i1 D.l1i2 q, Z.ls2.at fun o q => kp₁ _ o D.l2z D.l2TO D.l2i1 D.l2i2 q⟩
  show wpAny _ _ (field (.ref e) 3 >>= _) _ _ ⟨h₁, g, d, tk, os⟩
  refine wpAny_bind (wpAny_field he₁ rfl (x := rawInt i) rfl ?_)
  show wpAny _ _ (field (.ref e) 4 >>= _) _ _ ⟨h₁, g, d, tk, os⟩
  refine wpAny_bind (wpAny_field he₁ rfl (x := .none) rfl ?_)
  show wpAny _ _ (mkInt i >>= _) _ _ ⟨h₁, g, d, tk, os⟩
  refine wpAny_bind (wpAny_mkInt ?_)
  show wpAny _ _ (setField (.ref e) 3 (rawInt ((i : Int) + 1)) >>= _) _ _ ⟨h₁, g, d, tk + 1, os⟩
  refine wpAny_bind (wpAny_setField_rec he₁ (by simp) fun h₂ he₂ hs₂ => ?_)
  replace hs₂ : Heap.SameBut e h₁ h₂ := hs₂
  replace he₂ : IsEnum h₂ e z ((i : Int) + 1) old := he₂
  show wpAny _ _ (setField (.ref e) 4 .none >>= _) _ _ ⟨h₂, g, d, tk + 1, os⟩
  refine wpAny_bind (wpAny_setField_rec he₂ (by simp) fun h₃ he₃ hs₃ => ?_)
  replace hs₃ : Heap.SameBut e h₂ h₃ := hs₃
  replace he₃ : IsEnum h₃ e z ((i : Int) + 1) old := he₃
  show wpAny _ _ (newTuple [.int i tk, .ref hp.objs.size] >>= _) _ _ ⟨h₃, g, d, tk + 1, os⟩
  refine wpAny_bind (wpAny_newTuple ?_)
  have hsz : h₃.objs.size = hp.objs.size + 1 := by rw [hs₃.1, hs₂.1, sz₁]
  have he₄ : IsEnum (h₃.push { cls := .type "tuple", data := .seq #[.int i tk, .ref hp.objs.size] }) e z ((i : Int) + 1) old := Heap.get?_push_of_some _ he₃
  generalize hh₄ : h₃.push { cls := .type "tuple", data := .seq #[.int i tk, .ref hp.objs.size] } = h₄ at he₄
  have hel : e < hp.objs.size := Heap.lt_size he
  have up₄ : ∀ c o, c ≠ e → h₁.get? c = some o → h₄.get? c = some o := fun c o ce q => by
    rw [← hh₄]; exact Heap.get?_push_of_some _ (hs₃.extBut c o ce (hs₂.extBut c o ce q))
  have ht₄ : IsPair h₄ (hp.objs.size + 1) (.int i tk) (.ref hp.objs.size) := by rw [← hh₄, ← hsz]; exact Heap.get?_push_size _ rfl
  have hz₄ : h₄.objs.size = hp.objs.size + 2 := by rw [← hh₄, Heap.size_push, hsz]
  show wpAny _ _ (Builtin.SmallTypes.ownedTupleIsFree (.ref e) >>= _) _ _ ⟨h₄, g, d, tk + 1, os⟩
  rw [hsz]
  refine wpAny_bind ?_
  unfold Builtin.SmallTypes.ownedTupleIsFree
  refine wpAny_bind (wpAny_field he₄ rfl (x := .none) rfl (wpAny_pure ?_))
  simp only [if_true]
  refine wpAny_bind (wpAny_rule ?_)
  refine wpAny_bind (wpAny_field he₄ rfl (x := old) rfl ?_)
  refine wpAny_bind (wpAny_setField_rec he₄ (by simp) fun h₅ he₅ hs₅ => ?_)
  replace hs₅ : Heap.SameBut e h₄ h₅ := hs₅
  replace he₅ : IsEnum h₅ e z ((i : Int) + 1) (.ref hp.objs.size) := he₅
  show wpAny _ _ (Builtin.SmallTypes.ownedTupleHandOut (.ref e) (.ref (hp.objs.size + 1)) >>= _) _ _ ⟨h₅, g, d, tk + 1, os⟩
  refine wpAny_bind ?_
  unfold Builtin.SmallTypes.ownedTupleHandOut
  refine wpAny_bind (wpAny_setField_rec he₅ (by simp) fun h₆ he₆ hs₆ => ?_)
  replace hs₆ : Heap.SameBut e h₅ h₆ := hs₆
  replace he₆ : IsEnumOut h₆ e z ((i : Int) + 1) (.ref hp.objs.size) (hp.objs.size + 1) := he₆
  refine wpAny_setField_rec he₆ (by simp) fun h₇ he₇ hs₇ => ?_
  replace hs₇ : Heap.SameBut e h₆ h₇ := hs₇
  replace he₇ : IsEnumOut h₇ e z ((i : Int) + 1) (.ref hp.objs.size) (hp.objs.size + 1) := he₇
  have up₇ : ∀ c o, c ≠ e → h₄.get? c = some o → h₇.get? c = some o := fun c o ce q => hs₇.extBut c o ce (hs₆.extBut c o ce (hs₅.extBut c o ce q))
  refine wpAny_bind (wpAny_letGo (wpAny_pure ⟨_, rfl, hQ h₇ he₇ ?_ ?_ ?_ ?_ ?_⟩))
  · exact Z₁.keeps [e] (fun a ha => by rw [List.mem_singleton.mp ha]; exact hWe) (by simpa using D.ez.symm) (by simpa using D.eTI.symm) (by simpa using D.eTO.symm) (by simpa using D.ei1.symm) (by simpa using D.ei2.symm) (by simpa using D.el1.symm) (by simpa using D.el2.symm)
      fun b o hb q => up₇ b o (by simpa using hb) (up₄ b o (by simpa using hb) q)
  · exact up₇ _ _ (Nat.ne_of_gt hel) (up₄ _ _ (Nat.ne_of_gt hel) T₁)
  · exact up₇ _ _ (Nat.ne_of_gt (Nat.lt_succ_of_lt hel)) ht₄
  · rw [hs₇.1, hs₆.1, hs₅.1, hz₄]
  · exact fun c o c0 c1 c2 c3 c4 q => up₇ c o c0 (up₄ c o c0 (kp₁ c o c1 c2 c3 c4 q))
theorem pyNext_enumz {W : List Addr} {e z TI TO i1 i2 l1 l2 : Addr} {i : Nat} {xs ys : Array Value} {x y old : Value} {Q : Option Value → Shared → Prop} (D : Apart e z TI TO i1 i2 l1 l2)
    (hW : ∀ a ∈ W, a < s.heap.objs.size) (hWe : e ∈ W) (hWz : z ∈ W) (hWT : TO ∈ W) (hW1 : i1 ∈ W) (hW2 : i2 ∈ W)
    (he : IsEnum s.heap e z i old) (Z : EZ W s.heap e z TI TO i1 i2 l1 l2 xs ys i) (hx : xs[i]? = some x) (hy : ys[i]? = some y)
    (hQ : ∀ h', IsEnumOut h' e z ((i : Int) + 1) (.ref s.heap.objs.size) (s.heap.objs.size + 1) → EZ W h' e z TI TO i1 i2 l1 l2 xs ys (i + 1) →
      IsPair h' s.heap.objs.size x y → IsPair h' (s.heap.objs.size + 1) (.int i s.toks) (.ref s.heap.objs.size) → h'.objs.size = s.heap.objs.size + 2 →
      (∀ c o, c ≠ e → c ≠ z → c ≠ TO → c ≠ i1 → c ≠ i2 → s.heap.get? c = some o → h'.get? c = some o) → Q (some (.ref (s.heap.objs.size + 1))) { s with heap := h', toks := s.toks + 1 }) :
    wpAny (model prog w) A (pyNext (.ref e)) Q E s := by
  have hT : s.TypeIs (.ref e) "enumerate" := ⟨_, he, rfl⟩
  unfold pyNext
  exact wpAny_bind (wpAny_attempt (wpAny_callSpecial?_slot (name := Str.ofString "__next__") hT F.slot_enumerate_next
    (wpAny_call_entry F.slot_enumerate_next hT F.entry_enumerate_next
      (enumz_next D hW hWe hWz hWT hW1 hW2 he Z hx hy fun h' a b c d k j => wpAny_pure (hQ h' a b c d k j)) (F.args_enumerate_next_1 _))))
theorem pyNext_enumz_end {W : List Addr} {e z TI TO i1 i2 l1 l2 : Addr} {i : Nat} {xs ys : Array Value} {old : Value} {Q : Option Value → Shared → Prop} (hh : A.handled = none) (D : Apart e z TI TO i1 i2 l1 l2)
    (he : IsEnum s.heap e z i old) (Z : EZ W s.heap e z TI TO i1 i2 l1 l2 xs ys i) (hend : xs[i]? = none ∨ ys[i]? = none)
    (hQ : ∀ h', (∀ c o, c ≠ z → c ≠ TO → c ≠ i1 → c ≠ i2 → s.heap.get? c = some o → h'.get? c = some o) → Q none { s with heap := h' }) :
    wpAny (model prog w) A (pyNext (.ref e)) Q E s := by
  have hT : s.TypeIs (.ref e) "enumerate" := ⟨_, he, rfl⟩
  unfold pyNext
  refine wpAny_bind (wpAny_attempt (wpAny_callSpecial?_slot (name := Str.ofString "__next__") hT F.slot_enumerate_next
    (wpAny_call_entry F.slot_enumerate_next hT F.entry_enumerate_next ?_ (F.args_enumerate_next_1 _))))
  show wpAny _ _ (field (.ref e) 2 >>= _) _ _ _
  refine wpAny_bind (wpAny_field he rfl (x := .ref z) rfl ?_)
  refine wpAny_bind (nextOf_zip_end hh D.toZipApart Z.zst Z.ti Z.to Z.it1 Z.it2 Z.ls1 Z.ls2 hend fun h' x hk hx' => ?_)
  obtain ⟨o, ho, hc⟩ := hx'
  refine wpAny_bind (wpAny_isInstance (T := "StopIteration") (b := true) ⟨o, ho, hc⟩ isSubtype_stop ?_)
  exact wpAny_pure (hQ _ hk)
end
def TurnEnd (h₀ : Heap) (L c : Addr) (J : (Str → Option Value) → Prop) (s₁ : Shared) (f : Flow) (s₂ : Shared) : Prop :=
  f = .next ∧ ∃ h' tk m', s₂ = { s₁ with heap := h', toks := tk } ∧ Fr h₀ L h' m' ∧ J m' ∧ (∃ v, h'.IsCell c v) ∧ ∀ b o, b ≠ L → b ≠ c → s₁.heap.get? b = some o → h'.get? b = some o
def Ints (xs : Array Value) : Prop := ∀ (i : Nat) v, xs[i]? = some v → ∃ (n : Int) (t : Tok), v = .int n t
section
variable {prog : Program} {w : World} {A : Around} {s : Shared} {env : Env} {h₀ : Heap}
theorem loop_enumz {R : Result → Shared → Prop} {xi xa xb : Str} {pi pa pb pt pt2 : Pos} {x1 x2 : Nat} {body : List Stmt} {e z TI TO i1 i2 l1 l2 c : Addr} {xs ys : Array Value} {m : Str → Option Value} {J : (Str → Option Value) → Prop}
    (hh : A.handled = none) (hxi : env.kindOf xi = some .local) (hxa : env.kindOf xa = some .local) (hxb : env.kindOf xb = some .local)
    (hp : (env.scope.kind == .class || (env.scope.kind == .module && env.locals != env.globals)) = false)
    (D : Apart e z TI TO i1 i2 l1 l2) (hix : Ints xs) (hiy : Ints ys)
    (hoff : ∀ a ∈ [e, z, TI, TO, i1, i2, l1, l2], a ≠ env.locals ∧ a ≠ c) (hcL : c ≠ env.locals) (hnew : ∀ a ∈ [e, z, TO, i1, i2, c], h₀.get? a = none)
    (he : IsEnum s.heap e z 0 .none) (Z : EZ [e, z, TO, i1, i2, env.locals, c] s.heap e z TI TO i1 i2 l1 l2 xs ys 0) (F : Fr h₀ env.locals s.heap m) (hc : ∃ v, s.heap.IsCell c v) (h0 : J m)
    (step : ∀ (i : Nat) (x y : Int) ti tx ty m₁ h tk, J m₁ → Fr h₀ env.locals h (fun q => if q = xb then some (.int y ty) else if q = xa then some (.int x tx) else if q = xi then some (.int i ti) else m₁ q) → (∃ v, h.IsCell c v) →
      (∀ b o, b ∉ [e, z, TO, i1, i2, env.locals, c] → s.heap.get? b = some o → h.get? b = some o) →
      wpAny (model prog w) A (execs body env) (TurnEnd h₀ env.locals c J { s with heap := h, toks := tk }) (fun _ _ => False) { s with heap := h, toks := tk })
    (hR : ∀ h' tk m', Fr h₀ env.locals h' m' → J m' → R (.ok .next) { s with heap := h', toks := tk }) :
    codeAny (model prog w) A (.forLoop (.Tuple [.Name xi pi, .Tuple [.Name xa pa, .Name xb pb] x2 pt2] x1 pt) (.ref e) body [] env) R s := by
  have of0 : ∀ {a}, a ∈ [e, z, TO, i1, i2, env.locals, c] → h₀.get? a = none := by
    intro a ha
    by_cases q : a = env.locals
    · rw [q]; exact Heap.get?_none_of_le F.above
    · refine hnew a ?_
      simp only [List.mem_cons, List.not_mem_nil, or_false] at ha ⊢
      rcases ha with h | h | h | h | h | h | h <;> simp_all
  have old : ∀ b o, h₀.get? b = some o → b ∉ [e, z, TO, i1, i2, env.locals, c] := fun b o q hb => by rw [of0 hb] at q; cases q
  have off := fun a (ha : a ∈ [e, z, TI, TO, i1, i2, l1, l2]) => hoff a ha
  refine codeAny_forLoop_any
    (fun k s' => ∃ h' tk m' i old, s' = { s with heap := h', toks := tk } ∧ IsEnum h' e z ((i : Nat) : Int) old ∧ EZ [e, z, TO, i1, i2, env.locals, c] h' e z TI TO i1 i2 l1 l2 xs ys i ∧ Fr h₀ env.locals h' m' ∧ J m' ∧ (∃ v, h'.IsCell c v) ∧ i ≤ xs.size ∧
      k = xs.size + 1 - i ∧ ∀ b o, b ∉ [e, z, TO, i1, i2, env.locals, c] → s.heap.get? b = some o → h'.get? b = some o) ?_ (xs.size + 1)
    ⟨s.heap, s.toks, m, 0, .none, rfl, he, Z, F, h0, hc, Nat.zero_le _, rfl, fun _ _ _ x => x⟩
  rintro k s' ⟨H, tk, m', i, old', rfl, he', Z', F', hJ, hc', hi, rfl, hk⟩
  by_cases hend : xs[i]? = none ∨ ys[i]? = none
  · refine pyNext_enumz_end hh D he' Z' hend fun h₁ hk₁ => wpAny_execs_nil ?_
    refine hR h₁ tk m' ⟨F'.ns.at' fun o q => hk₁ _ o ?_ ?_ ?_ ?_ q, fun b o q => hk₁ b o ?_ ?_ ?_ ?_ (F'.keep b o q), F'.above⟩ hJ
    · exact (hoff z (by simp)).1.symm
    · exact (hoff TO (by simp)).1.symm
    · exact (hoff i1 (by simp)).1.symm
    · exact (hoff i2 (by simp)).1.symm
    · exact fun r => old b o q (by simp [r])
    · exact fun r => old b o q (by simp [r])
    · exact fun r => old b o q (by simp [r])
    · exact fun r => old b o q (by simp [r])
  · obtain ⟨hx, hy⟩ := not_or.mp hend
    obtain ⟨xv, hx⟩ := Option.ne_none_iff_exists'.mp hx
    obtain ⟨yv, hy⟩ := Option.ne_none_iff_exists'.mp hy
    obtain ⟨nx, tx, rfl⟩ := hix _ _ hx
    obtain ⟨ny, ty, rfl⟩ := hiy _ _ hy
    have hlt : i < xs.size := (Array.getElem?_eq_some_iff.mp hx).1
    obtain ⟨cv, oc, hoc, hdc⟩ := hc'
    have hW : ∀ a ∈ [e, z, TO, i1, i2, env.locals, c], a < H.objs.size := by
      intro a ha
      simp only [List.mem_cons, List.not_mem_nil, or_false] at ha
      obtain ⟨o1, ho1, _⟩ := id Z'.it1
      obtain ⟨o2, ho2, _⟩ := id Z'.it2
      obtain ⟨a1, b1, hTO⟩ := Z'.to
      rcases ha with rfl | rfl | rfl | rfl | rfl | rfl | rfl
      · exact Heap.lt_size he'
      · rcases Z'.zst with q | ⟨_, _, q, _⟩ <;> exact Heap.lt_size q
      · exact Heap.lt_size hTO
      · exact Heap.lt_size ho1
      · exact Heap.lt_size ho2
      · exact F'.ns.lt
      · exact Heap.lt_size hoc
    refine pyNext_enumz D hW (by simp) (by simp) (by simp) (by simp) (by simp) he' Z' hx hy fun h₁ heo Z₁ T₁ U₁ sz₁ kp₁ => ?_
    replace sz₁ : h₁.objs.size = H.objs.size + 2 := sz₁
    refine wpAny_letOwnedTupleGo_enum heo fun h₂ he₂ hs₂ => ?_
    replace hs₂ : Heap.SameBut e h₁ h₂ := hs₂
    have heH : e < H.objs.size := hW e (by simp)
    have hcH : c < H.objs.size := hW c (by simp)
    have hLH : env.locals < H.objs.size := hW env.locals (by simp)
    have T₂ : IsPair h₂ H.objs.size (.int nx tx) (.int ny ty) := (hs₂.2 _ (Nat.ne_of_gt heH)).trans T₁
    have U₂ : IsPair h₂ (H.objs.size + 1) (.int i tk) (.ref H.objs.size) := (hs₂.2 _ (Nat.ne_of_gt (Nat.lt_succ_of_lt heH))).trans U₁
    have kp₂ : ∀ b o, b ∉ [e, z, TO, i1, i2] → H.get? b = some o → h₂.get? b = some o := fun b o hb q => by
      simp only [List.mem_cons, List.not_mem_nil, or_false, not_or] at hb
      exact (hs₂.2 b hb.1).trans (kp₁ b o hb.1 hb.2.1 hb.2.2.1 hb.2.2.2.1 hb.2.2.2.2 q)
    have Z₂ : EZ [e, z, TO, i1, i2, env.locals, c] h₂ e z TI TO i1 i2 l1 l2 xs ys (i + 1) := Z₁.keeps [e] (fun a ha => by rw [List.mem_singleton.mp ha]; simp) (by simpa using D.ez.symm) (by simpa using D.eTI.symm) (by simpa using D.eTO.symm) (by simpa using D.ei1.symm) (by simpa using D.ei2.symm) (by simpa using D.el1.symm) (by simpa using D.el2.symm)
      fun b o hb q => (hs₂.2 b (by simpa using hb)).trans q
    refine wpAny_assign_Tuple hh (t := H.objs.size + 1) (items := #[.int i tk, .ref H.objs.size]) ⟨_, U₂, rfl, _, rfl⟩ rfl rfl fun h₃ hx₃ => ?_
    replace hx₃ : Heap.ExtBut h₂.objs.size h₂ h₃ := hx₃
    have up₃ : ∀ b o, h₂.get? b = some o → h₃.get? b = some o := fun b o q => hx₃ b o (Nat.ne_of_lt (Heap.lt_size q)) q
    have F₃ : Fr h₀ env.locals h₃ m' := ⟨F'.ns.at' fun o q => up₃ _ o (kp₂ _ o (by
        simp only [List.mem_cons, List.not_mem_nil, or_false, not_or]
        exact ⟨(hoff e (by simp)).1.symm, (hoff z (by simp)).1.symm, (hoff TO (by simp)).1.symm, (hoff i1 (by simp)).1.symm, (hoff i2 (by simp)).1.symm⟩) q),
      fun b o q => up₃ b o (kp₂ b o (fun hb => old b o q (by simp only [List.mem_cons, List.not_mem_nil, or_false] at hb ⊢; rcases hb with r | r | r | r | r <;> simp [r])) (F'.keep b o q)), F'.above⟩
    show wpAny _ A (do holding [.ref H.objs.size] (assign (.Name xi pi) env (.int i tk)); do holding [] (assign (.Tuple [.Name xa pa, .Name xb pb] x2 pt2) env (.ref H.objs.size)); pure ()) _ _ _
    refine wpAny_bind (wpAny_holding (wpAny_assign_Name (wpAny_storeName_local hxi F₃.ns (fun h₄ hn₄ hs₄ => ?_) hp)))
    replace hs₄ : Heap.SameBut env.locals h₃ h₄ := hs₄
    have F₄ := F₃.set hn₄ hs₄
    have hLT : H.objs.size ≠ env.locals := Nat.ne_of_gt hLH
    refine wpAny_bind (wpAny_holding (wpAny_assign_Tuple hh (t := H.objs.size) (items := #[.int nx tx, .int ny ty]) ⟨_, hs₄.extBut _ _ hLT (up₃ _ _ T₂), rfl, _, rfl⟩ rfl rfl fun h₅ hx₅ => ?_))
    replace hx₅ : Heap.ExtBut h₄.objs.size h₄ h₅ := hx₅
    have up₅ : ∀ b o, h₄.get? b = some o → h₅.get? b = some o := fun b o q => hx₅ b o (Nat.ne_of_lt (Heap.lt_size q)) q
    have F₅ : Fr h₀ env.locals h₅ _ := ⟨F₄.ns.at' fun o q => up₅ _ o q, fun b o q => up₅ b o (F₄.keep b o q), F₄.above⟩
    show wpAny _ A (do holding [.int ny ty] (assign (.Name xa pa) env (.int nx tx)); do holding [] (assign (.Name xb pb) env (.int ny ty)); pure ()) _ _ _
    refine wpAny_bind (wpAny_holding (wpAny_assign_Name (wpAny_storeName_local hxa F₅.ns (fun h₆ hn₆ hs₆ => ?_) hp)))
    replace hs₆ : Heap.SameBut env.locals h₅ h₆ := hs₆
    have F₆ := F₅.set hn₆ hs₆
    refine wpAny_bind (wpAny_holding (wpAny_assign_Name (wpAny_storeName_local hxb F₆.ns (fun h₇ hn₇ hs₇ => wpAny_pure (wpAny_pure ?_)) hp)))
    replace hs₇ : Heap.SameBut env.locals h₆ h₇ := hs₇
    have F₇ := F₆.set hn₇ hs₇
    have up₇ : ∀ b o, b ≠ env.locals → h₂.get? b = some o → h₇.get? b = some o := fun b o hb q => hs₇.extBut b o hb (hs₆.extBut b o hb (up₅ b o (hs₄.extBut b o hb (up₃ b o q))))
    have hc₇ : ∃ v, h₇.IsCell c v := ⟨cv, oc, up₇ c oc hcL (kp₂ c oc (by
        simp only [List.mem_cons, List.not_mem_nil, or_false, not_or]
        exact ⟨(hoff e (by simp)).2.symm, (hoff z (by simp)).2.symm, (hoff TO (by simp)).2.symm, (hoff i1 (by simp)).2.symm, (hoff i2 (by simp)).2.symm⟩) hoc), hdc⟩
    refine wpAny_mono (step i nx ny tk tx ty m' h₇ _ hJ F₇ hc₇ fun b o hb q => ?_) (fun f s₃ h₈ => ?_) fun _ _ q => q.elim
    · have hb' := hb
      simp only [List.mem_cons, List.not_mem_nil, or_false, not_or] at hb'
      exact up₇ b o hb'.2.2.2.2.2.1 (kp₂ b o (by simp only [List.mem_cons, List.not_mem_nil, or_false, not_or]; exact ⟨hb'.1, hb'.2.1, hb'.2.2.1, hb'.2.2.2.1, hb'.2.2.2.2.1⟩) (hk b o hb q))
    · obtain ⟨rfl, h₉, tk₉, m₉, rfl, F₉, J₉, c₉, k₉⟩ := h₈
      replace k₉ : ∀ b o, b ≠ env.locals → b ≠ c → h₇.get? b = some o → h₉.get? b = some o := k₉
      have k29 : ∀ b o, b ≠ env.locals → b ≠ c → h₂.get? b = some o → h₉.get? b = some o := fun b o q1 q2 q => k₉ b o q1 q2 (up₇ b o q1 q)
      refine ⟨xs.size + 1 - (i + 1), by omega, h₉, tk₉, m₉, i + 1, .ref H.objs.size, rfl, ?_, ?_, F₉, J₉, c₉, hlt, rfl, fun b o hb q => ?_⟩
      · have q : ((i + 1 : Nat) : Int) = (i : Int) + 1 := by push_cast; rfl
        rw [q]; exact k29 e _ (hoff e (by simp)).1 (hoff e (by simp)).2 he₂
      · refine Z₂.keeps [env.locals, c] (fun a ha => by simp only [List.mem_cons, List.not_mem_nil, or_false] at ha; rcases ha with r | r <;> simp [r]) ?_ ?_ ?_ ?_ ?_ ?_ ?_ (fun b o hb q => k29 b o (fun r => hb (by simp [r])) (fun r => hb (by simp [r])) q)
        · have := hoff z (by simp); simpa using this
        · have := hoff TI (by simp); simpa using this
        · have := hoff TO (by simp); simpa using this
        · have := hoff i1 (by simp); simpa using this
        · have := hoff i2 (by simp); simpa using this
        · have := hoff l1 (by simp); simpa using this
        · have := hoff l2 (by simp); simpa using this
      · have hb' := hb
        simp only [List.mem_cons, List.not_mem_nil, or_false, not_or] at hb'
        exact k29 b o hb'.2.2.2.2.2.1 hb'.2.2.2.2.2.2 (kp₂ b o (by simp only [List.mem_cons, List.not_mem_nil, or_false, not_or]; exact ⟨hb'.1, hb'.2.1, hb'.2.2.1, hb'.2.2.2.1, hb'.2.2.2.2.1⟩) (hk b o hb q))
end
end Mine
end

-- part Pl
section
open PySem PySem.W PyProof.Rows PySem.Float64
set_option maxRecDepth 100000
set_option maxHeartbeats 1000000
namespace Mine
/-! the plain law: exactly representable doubles and their texts -/
theorem half_scale (a d k : Nat) (hk : 0 < k) : halfEven (a * k) (d * k) = halfEven a d := by
  unfold halfEven
  simp only [Nat.mul_div_mul_right _ _ hk, Nat.mul_mod_mul_right]
  have e1 : (2 * (a % d * k) > d * k) = (2 * (a % d) > d) := by
    apply propext
    rw [← Nat.mul_assoc]
    exact Nat.mul_lt_mul_right hk
  have e2 : (2 * (a % d * k) == d * k) = (2 * (a % d) == d) := by
    rw [← Nat.mul_assoc]
    apply Bool.eq_iff_iff.mpr
    simp only [beq_iff_eq]
    exact ⟨fun h => Nat.eq_of_mul_eq_mul_right hk h, fun h => by rw [h]⟩
  simp only [e1, e2]
theorem half_ratio {a d a' d' : Nat} (h : a * d' = a' * d) (hd : 0 < d) (hd' : 0 < d') : halfEven a d = halfEven a' d' := by
  rw [← half_scale a d d' hd', ← half_scale a' d' d hd, h, Nat.mul_comm d d']
theorem half_spec (n d : Nat) (hd : 0 < d) : 2 * (halfEven n d * d) ≤ 2 * n + d ∧ 2 * n ≤ 2 * (halfEven n d * d) + d ∧ ((2 * (halfEven n d * d) = 2 * n + d ∨ 2 * n = 2 * (halfEven n d * d) + d) → halfEven n d % 2 = 0) := by
  have h1 := Nat.div_add_mod n d
  have h2 := Nat.mod_lt n hd
  have h3 : (n / d + 1) * d = d * (n / d) + d := by rw [Nat.add_mul, Nat.mul_comm, Nat.one_mul]
  have h4 : n / d * d = d * (n / d) := Nat.mul_comm ..
  unfold halfEven
  simp only
  split
  · rename_i h
    simp at h
    rw [h3]
    generalize d * (n / d) = P at *
    refine ⟨by omega, by omega, fun hh => ?_⟩
    omega
  · rename_i h
    simp at h
    rw [h4]
    generalize d * (n / d) = P at *
    refine ⟨by omega, by omega, fun hh => ?_⟩
    omega
theorem half_one (n : Nat) : halfEven n 1 = n := by
  unfold halfEven
  simp [Nat.mod_one]
/-- every m * 2 ^ k with m below 2 ^ 53 is a double's worth -/
theorem rep (a k : Nat) (ha : a < 2 ^ 53) (hk : 52 ≤ k) : ∃ t, V t = a * 2 ^ k := by
  by_cases h0 : a = 0
  · exact ⟨0, by rw [h0, V_zero, Nat.zero_mul]⟩
  · have hl : a.log2 ≤ 52 := by
      have := (Nat.log2_lt h0).mpr ha
      omega
    have h1 : 2 ^ a.log2 ≤ a := Nat.log2_self_le h0
    have h2 : a < 2 ^ (a.log2 + 1) := Nat.lt_log2_self
    have e1 : 2 ^ a.log2 * 2 ^ (52 - a.log2) = 2 ^ 52 := by rw [← Nat.pow_add]; congr 1; omega
    have e2 : 2 ^ (a.log2 + 1) * 2 ^ (52 - a.log2) = 2 ^ 53 := by rw [← Nat.pow_add]; congr 1; omega
    have e3 : 2 ^ (52 - a.log2) * 2 ^ (k - (52 - a.log2)) = 2 ^ k := by rw [← Nat.pow_add]; congr 1; omega
    have q1 : 2 ^ 52 ≤ a * 2 ^ (52 - a.log2) := e1 ▸ Nat.mul_le_mul_right _ h1
    have q2 : a * 2 ^ (52 - a.log2) ≤ 2 ^ 53 := e2 ▸ Nat.mul_le_mul_right _ (Nat.le_of_lt h2)
    refine ⟨(k - (52 - a.log2)) * 2 ^ 52 + a * 2 ^ (52 - a.log2), ?_⟩
    rw [V_at q2 (.inl q1), Nat.mul_assoc, e3]
/-- x is the double of worth v / 2 ^ 1074 -/
def PK (x : UInt64) (neg : Bool) (v : Nat) : Prop := ∃ t, t < infMag ∧ x = pack neg t ∧ V t = v
theorem pk_of_right {r : UInt64} {neg : Bool} {W D v t' : Nat} (R : Right r neg W D) (hD : 0 < D) (hv : D * v = W) (ht : V t' = v) (hfin : 2 * W < D * ((2 ^ 54 - 1) * 2 ^ 2045)) : PK r neg v := by
  obtain ⟨t, hr, hle, hinf, hn⟩ := R
  have hlt : t < infMag := Nat.lt_of_le_of_ne hle fun e => Nat.lt_irrefl _ (Nat.lt_of_lt_of_le hfin (hinf.mp e))
  refine ⟨t, hlt, hr, ?_⟩
  have h1 := (hn hlt t').1
  rw [ht, hv] at h1
  have h2 : dist W W = 0 := by unfold dist; omega
  rw [h2] at h1
  have h3 : D * V t = W := by unfold dist at h1; omega
  exact Nat.eq_of_mul_eq_mul_left hD (h3.trans hv.symm)
theorem pk_dec {x : UInt64} {neg : Bool} {v : Nat} (P : PK x neg v) : ∃ m e, decode x = .fin neg m e ∧ m * 2 ^ (e + 1074).toNat = v := by
  obtain ⟨t, hlt, rfl, hV⟩ := P
  obtain ⟨m, e, hd, hm⟩ := decode_pack neg hlt
  exact ⟨m, e, hd, hm.trans hV⟩
theorem pk_abs {x : UInt64} {neg : Bool} {v : Nat} (P : PK x neg v) : PK (Float64.abs x) false v := by
  have P' := P
  obtain ⟨m, e, hd, _⟩ := pk_dec P'
  obtain ⟨t, hlt, rfl, hV⟩ := P
  refine ⟨t, hlt, ?_, hV⟩
  have hi : infMag = 2047 * 2 ^ 52 := rfl
  unfold Float64.abs Float64.isNaN
  rw [hd]
  simp only [Bool.false_eq_true, if_false]
  rw [pack_toNat neg (by omega)]
  congr 1
  cases neg <;> simp <;> omega
theorem pk_lt {x : UInt64} {neg : Bool} {v : Nat} (P : PK x neg v) (i : Nat) : ltF x (i : Int) = decide (v < i * 2 ^ 1074) := by
  obtain ⟨m, e, hd, hm⟩ := pk_dec (pk_abs P)
  unfold ltF
  rw [cmpInt_right hd, val_eq hd, hm]
  have e1 : sgn false v = (v : Int) := rfl
  have e2 : ((i : Int) * 2 ^ 1074) = ((i * 2 ^ 1074 : Nat) : Int) := by rw [Int.natCast_mul, Int.natCast_pow]; rfl
  rw [e1, e2]
  generalize i * 2 ^ 1074 = k
  rcases Nat.lt_trichotomy v k with h | h | h
  · rw [Int.compare_eq_lt.mpr (by omega)]; simp [h]
  · subst h; simp
  · rw [Int.compare_eq_gt.mpr (by omega)]
    have : ¬ v < k := by omega
    simp [this]
end Mine
end

-- part Pl2
section
open PySem PySem.W PyProof.Rows PySem.Float64
set_option maxRecDepth 100000
set_option maxHeartbeats 1000000
namespace Mine
def stripped (ds : List Char) : List Char := (ds.reverse.dropWhile (· == '0')).reverse
theorem strip_rev : ∀ l : List Char, ∃ r, l = zeros r ++ l.dropWhile (· == '0')
  | [] => ⟨0, rfl⟩
  | c :: l => by
    by_cases h : c = '0'
    · obtain ⟨r, e⟩ := strip_rev l
      refine ⟨r + 1, ?_⟩
      subst h
      have e2 : List.dropWhile (fun x => x == '0') ('0' :: l) = List.dropWhile (fun x => x == '0') l := by simp [List.dropWhile_cons]
      rw [e2]
      show '0' :: l = zeros (r + 1) ++ _
      unfold zeros at *
      rw [List.replicate_succ, List.cons_append, ← e]
    · refine ⟨0, ?_⟩
      have e2 : List.dropWhile (fun x => x == '0') (c :: l) = c :: l := by simp [List.dropWhile_cons, h]
      rw [e2]
      rfl
theorem strip_app (ds : List Char) : ∃ r, ds = stripped ds ++ zeros r := by
  obtain ⟨r, e⟩ := strip_rev ds.reverse
  refine ⟨r, ?_⟩
  have := congrArg List.reverse e
  rw [List.reverse_reverse, List.reverse_append] at this
  unfold stripped
  have hz : (zeros r).reverse = zeros r := by unfold zeros; exact List.reverse_replicate ..
  rw [hz] at this
  exact this
theorem pad_take {ds s : List Char} {r : Nat} (e : ds = s ++ zeros r) {k : Nat} (hk : k ≤ ds.length) : padRight (s.take k) k = ds.take k := by
  subst e
  unfold padRight
  rw [List.length_append] at hk
  have hz : (zeros r).length = r := by unfold zeros; simp
  rw [hz] at hk
  rw [List.take_append, List.length_take]
  congr 1
  unfold zeros
  rw [List.take_replicate]
  congr 1
  omega
theorem pad_drop {ds s : List Char} {r : Nat} (e : ds = s ++ zeros r) {k j : Nat} (hk : ds.length = k + j) : padRight (s.drop k) j = ds.drop k := by
  subst e
  unfold padRight
  rw [List.length_append] at hk
  have hz : (zeros r).length = r := by unfold zeros; simp
  rw [hz] at hk
  rw [List.drop_append, List.length_drop]
  congr 1
  unfold zeros
  rw [List.drop_replicate]
  congr 1
  omega
theorem pointed0 (C : Nat) : pointed (Digits.of C 0) 0 = (Nat.repr C).toList := by
  have hne : (Nat.repr C).toList ≠ [] := by
    intro h
    have : (Nat.toDigits 10 C) = [] := by simpa [Nat.repr] using h
    exact Nat.toDigits_ne_nil this
  obtain ⟨r, e⟩ := strip_app (Nat.repr C).toList
  have hl : 0 < (Nat.repr C).toList.length := List.length_pos_iff.mpr hne
  unfold pointed
  show (if (0 : Int) + ((Nat.repr C).toList.length : Int) ≤ 0 then ['0'] else padRight ((stripped (Nat.repr C).toList).take ((0 : Int) + ((Nat.repr C).toList.length : Int)).toNat) ((0 : Int) + ((Nat.repr C).toList.length : Int)).toNat) ++ (if (0 > 0 || false) = true then _ else []) = _
  rw [if_neg (by omega), if_neg (by simp), List.append_nil]
  have : ((0 : Int) + ((Nat.repr C).toList.length : Int)).toNat = (Nat.repr C).toList.length := by omega
  rw [this, pad_take e (Nat.le_refl _), List.take_length]
theorem pointed1 (C : Nat) (h2 : 2 ≤ (Nat.repr C).toList.length) : pointed (Digits.of C (-1)) 1 = (Nat.repr C).toList.take ((Nat.repr C).toList.length - 1) ++ '.' :: (Nat.repr C).toList.drop ((Nat.repr C).toList.length - 1) := by
  obtain ⟨r, e⟩ := strip_app (Nat.repr C).toList
  unfold pointed
  show (if (-1 : Int) + ((Nat.repr C).toList.length : Int) ≤ 0 then ['0'] else padRight ((stripped (Nat.repr C).toList).take ((-1 : Int) + ((Nat.repr C).toList.length : Int)).toNat) ((-1 : Int) + ((Nat.repr C).toList.length : Int)).toNat) ++
    (if (1 > 0 || false) = true then '.' :: padRight (zeros (-((-1 : Int) + ((Nat.repr C).toList.length : Int))).toNat ++ (stripped (Nat.repr C).toList).drop ((-1 : Int) + ((Nat.repr C).toList.length : Int)).toNat) 1 else []) = _
  rw [if_neg (by omega), if_pos (by simp)]
  have h3 : ((-1 : Int) + ((Nat.repr C).toList.length : Int)).toNat = (Nat.repr C).toList.length - 1 := by omega
  have h4 : (-((-1 : Int) + ((Nat.repr C).toList.length : Int))).toNat = 0 := by omega
  rw [h3, h4]
  have hz : zeros 0 = [] := rfl
  rw [hz, List.nil_append, pad_take e (by omega), pad_drop e (by omega)]
theorem text_is {x : UInt64} {neg : Bool} {v N D p : Nat} (P : PK x neg v) (hv : v ≠ 0) (hD : 0 < D) (hr : v * D = N * 2 ^ 1074) :
    Float64.text x 'f' p false false false = (neg, pointed (Digits.of (halfEven (N * 10 ^ p) D) (-(p : Int))) p) := by
  obtain ⟨m, e, hd, hm⟩ := pk_dec P
  have hm0 : m ≠ 0 := fun h => hv (by rw [← hm, h, Nat.zero_mul])
  have hge := decode_ge hd
  unfold Float64.text
  rw [hd]
  have hsp : 0 < (shift m 1 e).2 := shift_pos m 1 e (by decide)
  have hs := shift_one m e 1074 (by omega)
  have e3 : (e + ((1074 : Nat) : Int)).toNat = (e + 1074).toNat := rfl
  rw [e3, hm] at hs
  have hfix : fixed (shift m 1 e).1 (shift m 1 e).2 p = Digits.of (halfEven (N * 10 ^ p) D) (-(p : Int)) := by
    unfold fixed shift10
    have h0 : ((p : Nat) : Int) ≥ 0 := by omega
    simp only [if_pos h0, Int.toNat_natCast]
    congr 1
    refine half_ratio ?_ hsp hD
    have hU : 0 < (2 : Nat) ^ 1074 := Nat.two_pow_pos _
    generalize (2 : Nat) ^ 1074 = U at *
    apply Nat.eq_of_mul_eq_mul_right hU
    calc (shift m 1 e).1 * 10 ^ p * D * U = (shift m 1 e).1 * U * (10 ^ p * D) := by ac_rfl
      _ = v * (shift m 1 e).2 * (10 ^ p * D) := by rw [hs]
      _ = v * D * ((shift m 1 e).2 * 10 ^ p) := by ac_rfl
      _ = N * U * ((shift m 1 e).2 * 10 ^ p) := by rw [hr]
      _ = N * 10 ^ p * (shift m 1 e).2 * U := by ac_rfl
  have hm1 : (m == 0) = false := by simpa using hm0
  simp only [hm1, Bool.false_eq_true, if_false, Bool.false_and, Bool.not_false, Bool.and_true]
  have c1 : ('f' == 'e') = false := by decide
  have c2 : ('f' == 'f') = true := by decide
  simp only [c1, c2, Bool.false_eq_true, if_false, if_true]
  rw [hfix]
end Mine
end

-- part Pl3
section
open PySem PySem.W PyProof.Rows PySem.Float64
set_option maxRecDepth 100000
set_option maxHeartbeats 1000000
namespace Mine
def dg (C : Nat) : List Nat := (Nat.toDigits 10 C).map Char.toNat
def mark (neg sg : Bool) : List Nat := if neg then [45] else if sg then [43] else []
theorem dg_range {C c : Nat} (h : c ∈ dg C) : 48 ≤ c ∧ c ≤ 57 := by
  obtain ⟨ch, hch, e⟩ := List.mem_map.mp h
  have r := Nat.isDigit_of_mem_toDigits (by decide) (by decide) hch
  rw [← e]
  simp only [Char.isDigit, Bool.and_eq_true, decide_eq_true_eq] at r
  exact ⟨r.1, r.2⟩
theorem dg_ne (C : Nat) : dg C ≠ [] := by
  unfold dg
  intro h
  exact Nat.toDigits_ne_nil (List.map_eq_nil_iff.mp h)
theorem repr_dg (C : Nat) : (Nat.repr C).toList.map Char.toNat = dg C := by
  rw [Nat.toList_repr]; rfl
theorem laid_mark (neg sg : Bool) {l : List Nat} (hl : l ≠ []) (hd : ∀ c ∈ l.head?, 48 ≤ c ∧ c ≤ 57) : laid sg ((if neg then [45] else []) ++ l) = mark neg sg ++ l := by
  unfold laid mark
  cases neg with
  | true => simp
  | false =>
    cases l with
    | nil => exact absurd rfl hl
    | cons c r =>
      have := hd c (by simp)
      have h1 : c ≠ 45 := by omega
      have h2 : c ≠ 43 := by omega
      simp [h1, h2]
def fig (neg sg : Bool) (C : Nat) : Str := ⟨(mark neg sg ++ dg C).toArray⟩
def figD (neg sg : Bool) (C : Nat) : Str := ⟨(mark neg sg ++ ((dg C).take ((dg C).length - 1) ++ 46 :: (dg C).drop ((dg C).length - 1))).toArray⟩
section
variable {x : UInt64} {neg sg : Bool} {v N D : Nat}
theorem head_dg (C : Nat) : ∀ c ∈ (dg C).head?, 48 ≤ c ∧ c ≤ 57 := fun c hc => dg_range (List.mem_of_mem_head? hc)
theorem ftext0 (P : PK x neg v) (hv : v ≠ 0) (hD : 0 < D) (hr : v * D = N * 2 ^ 1074) : fText x 0 sg = fig neg sg (halfEven N D) := by
  have e := text_is (p := 0) P hv hD hr
  rw [Nat.pow_zero, Nat.mul_one] at e
  unfold fText rawText fig
  have e2 : pointed (Digits.of (halfEven N D) (-((0 : Nat) : Int))) 0 = (Nat.repr (halfEven N D)).toList := pointed0 _
  rw [e, e2]
  simp only
  rw [repr_dg, laid_mark neg sg (dg_ne _) (head_dg _)]
theorem dg_len {C : Nat} (h : 10 ≤ C) : 2 ≤ (dg C).length := by
  unfold dg
  rw [List.length_map]
  have t : Nat.toDigits 10 (C / 10) ++ Nat.toDigits 10 (C % 10) = Nat.toDigits 10 (10 * (C / 10) + C % 10) := Nat.toDigits_append_toDigits (by decide) (by omega) (Nat.mod_lt _ (by decide))
  rw [Nat.div_add_mod] at t
  rw [← t, List.length_append]
  have h1 : 0 < (Nat.toDigits 10 (C / 10)).length := List.length_pos_iff.mpr Nat.toDigits_ne_nil
  have h2 : 0 < (Nat.toDigits 10 (C % 10)).length := List.length_pos_iff.mpr Nat.toDigits_ne_nil
  omega
theorem ftext1 (P : PK x neg v) (hv : v ≠ 0) (hD : 0 < D) (hr : v * D = N * 2 ^ 1074) (h10 : 10 ≤ halfEven (N * 10) D) : fText x 1 sg = figD neg sg (halfEven (N * 10) D) := by
  have e := text_is (p := 1) P hv hD hr
  rw [Nat.pow_one] at e
  unfold fText rawText figD
  have hl : (Nat.repr (halfEven (N * 10) D)).toList.length = (dg (halfEven (N * 10) D)).length := by rw [← repr_dg, List.length_map]
  have e2 : pointed (Digits.of (halfEven (N * 10) D) (-((1 : Nat) : Int))) 1 = _ := pointed1 _ (by rw [hl]; exact dg_len h10)
  rw [e, e2]
  simp only
  rw [List.map_append, List.map_cons, List.map_take, List.map_drop, repr_dg, hl]
  have h2 := dg_len h10
  rw [laid_mark neg sg]
  · rfl
  · intro h
    simp at h
  · intro c hc
    refine dg_range (C := halfEven (N * 10) D) ?_
    have hne : (dg (halfEven (N * 10) D)).take ((dg (halfEven (N * 10) D)).length - 1) ≠ [] := by
      intro h
      have := congrArg List.length h
      rw [List.length_take] at this
      simp at this
      omega
    obtain ⟨c', r', e9⟩ := List.exists_cons_of_ne_nil hne
    rw [e9] at hc
    have hc' : c' = c := by simpa using hc
    refine List.mem_of_mem_take (i := (dg (halfEven (N * 10) D)).length - 1) ?_
    rw [e9, hc']
    exact List.mem_cons_self
end
theorem pk_first {n : Int} {a b : Nat} (hn : n.natAbs = a * 2 ^ b) (ha : a < 2 ^ 53) (hb : b ≤ 200) : PK (firstF n) (decide (n < 0)) (a * 2 ^ (b + 1064)) := by
  obtain ⟨t, ht⟩ := rep a (b + 1064) ha (by omega)
  have e : (decide (n < 0) != decide ((1024 : Int) < 0)) = decide (n < 0) := by simp
  unfold firstF
  rw [e]
  refine pk_of_right (W := n.natAbs * 2 ^ 1074) (D := 1024) (ofFrac_right (by decide) rfl (by decide)) (by decide) ?_ ht ?_
  · rw [hn]
    have this : (2 : Nat) ^ (b + 1064) * 2 ^ 10 = 2 ^ b * 2 ^ 1074 := by
      rw [← Nat.pow_add, ← Nat.pow_add]
    have e10 : (1024 : Nat) = 2 ^ 10 := by decide
    rw [e10]
    generalize (2 : Nat) ^ 1074 = U at *
    generalize (2 : Nat) ^ (b + 1064) = P at *
    generalize (2 : Nat) ^ 10 = R at *
    rw [Nat.mul_comm, Nat.mul_assoc, this, Nat.mul_assoc]
  · have h1 : n.natAbs ≤ 2 ^ 53 * 2 ^ 200 := by rw [hn]; exact Nat.mul_le_mul (Nat.le_of_lt ha) (Nat.pow_le_pow_right (by decide) hb)
    have h2 : 2 * (2 ^ 53 * 2 ^ 200 * 2 ^ 1074) < 1024 * ((2 ^ 54 - 1) * 2 ^ 2045) := by decide +kernel
    exact Nat.lt_of_le_of_lt (Nat.mul_le_mul_left _ (Nat.mul_le_mul_right _ h1)) h2
theorem pk_int {n : Int} {a b : Nat} (hn : n.natAbs = a * 2 ^ b) (ha : a < 2 ^ 53) (hb : b ≤ 200) : PK (ofInt n) (decide (n < 0)) (a * 2 ^ (b + 1074)) := by
  obtain ⟨t, ht⟩ := rep a (b + 1074) ha (by omega)
  refine pk_of_right (W := n.natAbs * 2 ^ 1074) (D := 1) (ofInt_right n) (by decide) ?_ ht ?_
  · rw [hn, Nat.one_mul, Nat.pow_add, Nat.mul_assoc]
  · have h1 : n.natAbs ≤ 2 ^ 53 * 2 ^ 200 := by rw [hn]; exact Nat.mul_le_mul (Nat.le_of_lt ha) (Nat.pow_le_pow_right (by decide) hb)
    have h2 : 2 * (2 ^ 53 * 2 ^ 200 * 2 ^ 1074) < 1 * ((2 ^ 54 - 1) * 2 ^ 2045) := by decide +kernel
    exact Nat.lt_of_le_of_lt (Nat.mul_le_mul_left _ (Nat.mul_le_mul_right _ h1)) h2
theorem dec1024 : decode (ofInt 1024) = .fin false (2 ^ 52) (-42) := by with_unfolding_all rfl
theorem pk_next {x : UInt64} {neg : Bool} {a p : Nat} (P : PK x neg (a * 2 ^ p)) (ha : a < 2 ^ 53) (hp : 62 ≤ p) (hp2 : p ≤ 1300) : PK (Float64.div x (ofInt 1024)) neg (a * 2 ^ (p - 10)) := by
  obtain ⟨m, e, hd, hm⟩ := pk_dec P
  obtain ⟨t, ht⟩ := rep a (p - 10) ha (by omega)
  have R := div_right hd dec1024 (by decide)
  have hv : (val x).natAbs = a * 2 ^ p := (val_natAbs hd).trans hm
  have hy : (val (ofInt 1024)).natAbs = 1024 * 2 ^ 1074 := by rw [val_natAbs dec1024]; decide +kernel
  rw [hv, hy] at R
  have en : (neg != false) = neg := by cases neg <;> rfl
  rw [en] at R
  have hpp : (2 : Nat) ^ p = 2 ^ (p - 10) * 1024 := by
    rw [show (1024 : Nat) = 2 ^ 10 from rfl, ← Nat.pow_add]; congr 1; omega
  refine pk_of_right R (Nat.mul_pos (by decide) (Nat.two_pow_pos _)) ?_ ht ?_
  · rw [hpp]
    generalize (2 : Nat) ^ 1074 = U
    ac_rfl
  · have h1 : a * 2 ^ p ≤ 2 ^ 53 * 2 ^ 1300 := Nat.mul_le_mul (Nat.le_of_lt ha) (Nat.pow_le_pow_right (by decide) hp2)
    have h2 : 2 * (2 ^ 53 * 2 ^ 1300 * 2 ^ 1074) < 1024 * 2 ^ 1074 * ((2 ^ 54 - 1) * 2 ^ 2045) := by decide +kernel
    exact Nat.lt_of_le_of_lt (Nat.mul_le_mul_left _ (Nat.mul_le_mul_right _ h1)) h2
/-- a double of worth N / 1024 ^ k, N = a * 2 ^ b -/
theorem lt_is {x : UInt64} {neg : Bool} {a b k : Nat} (hk : k ≤ 4) (P : PK x neg (a * 2 ^ (b + 1074 - 10 * k))) (i : Nat) : ltF x (i : Int) = decide (a * 2 ^ b < i * 1024 ^ k) := by
  rw [pk_lt P]
  have e1 : (2 : Nat) ^ (b + 1074 - 10 * k) * 2 ^ (10 * k) = 2 ^ b * 2 ^ 1074 := by rw [← Nat.pow_add, ← Nat.pow_add]; congr 1; omega
  have e2 : (1024 : Nat) ^ k = 2 ^ (10 * k) := by rw [Nat.pow_mul]
  have hpos : 0 < (2 : Nat) ^ (10 * k) := Nat.two_pow_pos _
  have hU : 0 < (2 : Nat) ^ 1074 := Nat.two_pow_pos _
  apply decide_eq_decide.mpr
  rw [← Nat.mul_lt_mul_right hpos, Nat.mul_assoc, e1, e2, ← Nat.mul_lt_mul_right hU (b := a * 2 ^ b)]
  constructor
  · intro h
    calc a * 2 ^ b * 2 ^ 1074 = a * (2 ^ b * 2 ^ 1074) := by rw [Nat.mul_assoc]
      _ < i * 2 ^ 1074 * 2 ^ (10 * k) := h
      _ = i * 2 ^ (10 * k) * 2 ^ 1074 := by rw [Nat.mul_assoc, Nat.mul_assoc, Nat.mul_comm (2 ^ 1074)]
  · intro h
    calc a * (2 ^ b * 2 ^ 1074) = a * 2 ^ b * 2 ^ 1074 := by rw [Nat.mul_assoc]
      _ < i * 2 ^ (10 * k) * 2 ^ 1074 := h
      _ = i * 2 ^ 1074 * 2 ^ (10 * k) := by rw [Nat.mul_assoc, Nat.mul_assoc, Nat.mul_comm (2 ^ 1074)]
theorem worth_is {a b k : Nat} (hk : k ≤ 4) : a * 2 ^ (b + 1074 - 10 * k) * 1024 ^ k = a * 2 ^ b * 2 ^ 1074 := by
  have e1 : (2 : Nat) ^ (b + 1074 - 10 * k) * 2 ^ (10 * k) = 2 ^ b * 2 ^ 1074 := by rw [← Nat.pow_add, ← Nat.pow_add]; congr 1; omega
  have e2 : (1024 : Nat) ^ k = 2 ^ (10 * k) := by rw [Nat.pow_mul]
  rw [e2, Nat.mul_assoc, e1, Nat.mul_assoc]
end Mine
end

-- part Pl4
section
open PySem PySem.W PyProof.Rows PySem.Float64
set_option maxRecDepth 100000
set_option maxHeartbeats 1000000
namespace Mine
def unitOf : Nat → Str
  | 0 => Str.ofString "B"
  | 1 => Str.ofString "KiB"
  | 2 => Str.ofString "MiB"
  | 3 => Str.ofString "GiB"
  | _ => Str.ofString "TiB"
def stage (n : Int) : Nat → UInt64
  | 0 => firstF n
  | k + 1 => Float64.div (stage n k) (ofInt 1024)
section
variable {n : Int} {a b : Nat} {sg : Bool}
/-- stage k is n / 1024 ^ (k + 1) -/
theorem pk_stage (hn : n.natAbs = a * 2 ^ b) (ha : a < 2 ^ 53) (hb : b ≤ 200) : ∀ k, k ≤ 3 → PK (stage n k) (decide (n < 0)) (a * 2 ^ (b + 1074 - 10 * (k + 1)))
  | 0, _ => by
    have := pk_first hn ha hb
    have e : b + 1074 - 10 * (0 + 1) = b + 1064 := by omega
    rw [e]; exact this
  | k + 1, hk => by
    have := pk_next (pk_stage hn ha hb k (by omega)) ha (by omega) (by omega)
    have e : b + 1074 - 10 * (k + 1) - 10 = b + 1074 - 10 * (k + 1 + 1) := by omega
    rw [e] at this; exact this
theorem st_lt (hn : n.natAbs = a * 2 ^ b) (ha : a < 2 ^ 53) (hb : b ≤ 200) {k : Nat} (hk : k ≤ 3) (i : Nat) : ltF (stage n k) (i : Int) = decide (n.natAbs < i * 1024 ^ (k + 1)) := by
  rw [lt_is (k := k + 1) (by omega) (pk_stage hn ha hb k hk), hn]
theorem skip {u v : Str} {us : List Str} {x : UInt64} (h1 : ltF x 100 = false) (h2 : ltF x 10240 = false) : fmtF sg (u :: v :: us) x = fmtF sg (v :: us) (Float64.div x (ofInt 1024)) := (fmtF_3 h1 h2 rfl).symm
theorem st_text0 (hn : n.natAbs = a * 2 ^ b) (ha : a < 2 ^ 53) (hb : b ≤ 200) (h0 : n.natAbs ≠ 0) {k : Nat} (hk : k ≤ 3) : fText (stage n k) 0 sg = fig (decide (n < 0)) sg (halfEven n.natAbs (1024 ^ (k + 1))) := by
  refine ftext0 (pk_stage hn ha hb k hk) ?_ (Nat.pow_pos (by decide)) ?_
  · intro h
    rcases Nat.mul_eq_zero.mp h with h | h
    · exact h0 (by rw [hn, h, Nat.zero_mul])
    · exact absurd h (Nat.ne_of_gt (Nat.two_pow_pos _))
  · rw [worth_is (by omega), hn]
theorem st_text1 (hn : n.natAbs = a * 2 ^ b) (ha : a < 2 ^ 53) (hb : b ≤ 200) (h0 : n.natAbs ≠ 0) {k : Nat} (hk : k ≤ 3) (h10 : 10 ≤ halfEven (n.natAbs * 10) (1024 ^ (k + 1))) : fText (stage n k) 1 sg = figD (decide (n < 0)) sg (halfEven (n.natAbs * 10) (1024 ^ (k + 1))) := by
  refine ftext1 (pk_stage hn ha hb k hk) ?_ (Nat.pow_pos (by decide)) ?_ h10
  · intro h
    rcases Nat.mul_eq_zero.mp h with h | h
    · exact h0 (by rw [hn, h, Nat.zero_mul])
    · exact absurd h (Nat.ne_of_gt (Nat.two_pow_pos _))
  · rw [worth_is (by omega), hn]
theorem int_text0 (hn : n.natAbs = a * 2 ^ b) (ha : a < 2 ^ 53) (hb : b ≤ 200) (h0 : n.natAbs ≠ 0) : fText (ofInt n) 0 sg = fig (decide (n < 0)) sg n.natAbs := by
  have := ftext0 (sg := sg) (D := 1) (N := n.natAbs) (pk_int hn ha hb) ?_ (by decide) ?_
  · rw [half_one] at this; exact this
  · intro h
    rcases Nat.mul_eq_zero.mp h with h | h
    · exact h0 (by rw [hn, h, Nat.zero_mul])
    · exact absurd h (Nat.ne_of_gt (Nat.two_pow_pos _))
  · rw [hn, Nat.mul_one, Nat.pow_add, Nat.mul_assoc]
/-- the k-th unit above B: no unit below it speaks -/
theorem fmt_at (hn : n.natAbs = a * 2 ^ b) (ha : a < 2 ^ 53) (hb : b ≤ 200) {k : Nat} (hk : k ≤ 3) (hlo : 10 * 1024 ^ (k + 1) ≤ n.natAbs) :
    fmt n sg = fmtF sg ([Str.ofString "KiB", Str.ofString "MiB", Str.ofString "GiB", Str.ofString "TiB"].drop k) (stage n k) := by
  have big : ¬ n.natAbs < 10240 := by
    have : 10 * 1024 ^ 1 ≤ 10 * 1024 ^ (k + 1) := Nat.mul_le_mul_left _ (Nat.pow_le_pow_right (by decide) (by omega))
    omega
  unfold fmt
  rw [if_neg big]
  have no : ∀ j, j < k → ltF (stage n j) 100 = false ∧ ltF (stage n j) 10240 = false := by
    intro j hj
    have h1 := st_lt hn ha hb (k := j) (by omega) 100
    have h2 := st_lt hn ha hb (k := j) (by omega) 10240
    have hp : 10 * 1024 ^ (j + 1 + 1) ≤ 10 * 1024 ^ (k + 1) := Nat.mul_le_mul_left _ (Nat.pow_le_pow_right (by decide) (by omega))
    have e : 1024 ^ (j + 1 + 1) = 1024 ^ (j + 1) * 1024 := Nat.pow_succ ..
    rw [e] at hp
    constructor
    · refine h1.trans (decide_eq_false ?_)
      generalize 1024 ^ (j + 1) = P at *
      omega
    · refine h2.trans (decide_eq_false ?_)
      generalize 1024 ^ (j + 1) = P at *
      omega
  match k, hk with
  | 0, _ => rfl
  | 1, _ =>
    have n0 := no 0 (by omega)
    rw [show firstF n = stage n 0 from rfl, skip n0.1 n0.2]
    rfl
  | 2, _ =>
    have n0 := no 0 (by omega)
    have n1 := no 1 (by omega)
    rw [show firstF n = stage n 0 from rfl, skip n0.1 n0.2, show Float64.div (stage n 0) (ofInt 1024) = stage n 1 from rfl, skip n1.1 n1.2]
    rfl
  | 3, _ =>
    have n0 := no 0 (by omega)
    have n1 := no 1 (by omega)
    have n2 := no 2 (by omega)
    rw [show firstF n = stage n 0 from rfl, skip n0.1 n0.2, show Float64.div (stage n 0) (ofInt 1024) = stage n 1 from rfl, skip n1.1 n1.2, show Float64.div (stage n 1) (ofInt 1024) = stage n 2 from rfl, skip n2.1 n2.2]
    rfl
theorem at_one {x : UInt64} {u : Str} {us : List Str} (h : ltF x 100 = true) : fmtF sg (u :: us) x = fText x 1 sg ++ Str.ofString " " ++ u := (fmtF_1 h).symm
theorem at_two {x : UInt64} {u : Str} {us : List Str} (h : ltF x 100 = false) (h2 : ltF x 10240 = true) : fmtF sg (u :: us) x = fText x 0 sg ++ Str.ofString " " ++ u := (fmtF_2 h h2).symm
theorem at_last {x : UInt64} {u : Str} (h : ltF x 100 = false) : fmtF sg [u] x = fText x 0 sg ++ Str.ofString " " ++ u := (fmtF_4 h).symm
theorem pow_pos' (k : Nat) : 0 < 1024 ^ k := Nat.pow_pos (by decide)
theorem ne0_of {k : Nat} (hlo : 10 * 1024 ^ (k + 1) ≤ n.natAbs) : n.natAbs ≠ 0 := by
  have := pow_pos' (k + 1)
  generalize 1024 ^ (k + 1) = P at *
  omega
/-- told with a point -/
theorem fmt_dot (hn : n.natAbs = a * 2 ^ b) (ha : a < 2 ^ 53) (hb : b ≤ 200) {k : Nat} (hk : k ≤ 3) (hlo : 10 * 1024 ^ (k + 1) ≤ n.natAbs) (hhi : n.natAbs < 100 * 1024 ^ (k + 1)) :
    fmt n sg = figD (decide (n < 0)) sg (halfEven (n.natAbs * 10) (1024 ^ (k + 1))) ++ Str.ofString " " ++ unitOf (k + 1) := by
  have h1 : ltF (stage n k) 100 = true := (st_lt hn ha hb hk 100).trans (decide_eq_true hhi)
  have h10 : 10 ≤ halfEven (n.natAbs * 10) (1024 ^ (k + 1)) := by
    have hp := pow_pos' (k + 1)
    have := (half_spec (n.natAbs * 10) (1024 ^ (k + 1)) hp).2.1
    generalize 1024 ^ (k + 1) = P at *
    generalize halfEven (n.natAbs * 10) P = C at *
    apply Nat.le_of_not_lt
    intro hC
    have h3 : C * P ≤ 9 * P := Nat.mul_le_mul_right _ (by omega)
    omega
  rw [fmt_at hn ha hb hk hlo]
  have ht := st_text1 (sg := sg) hn ha hb (ne0_of hlo) hk h10
  match k, hk with
  | 0, _ => exact (at_one h1).trans (by rw [ht]; rfl)
  | 1, _ => exact (at_one h1).trans (by rw [ht]; rfl)
  | 2, _ => exact (at_one h1).trans (by rw [ht]; rfl)
  | 3, _ => exact (at_one h1).trans (by rw [ht]; rfl)
/-- told by a whole number -/
theorem fmt_whole (hn : n.natAbs = a * 2 ^ b) (ha : a < 2 ^ 53) (hb : b ≤ 200) {k : Nat} (hk : k ≤ 3) (hlo : 100 * 1024 ^ (k + 1) ≤ n.natAbs) (hhi : k = 3 ∨ n.natAbs < 10240 * 1024 ^ (k + 1)) :
    fmt n sg = fig (decide (n < 0)) sg (halfEven n.natAbs (1024 ^ (k + 1))) ++ Str.ofString " " ++ unitOf (k + 1) := by
  have h1 : ltF (stage n k) 100 = false := (st_lt hn ha hb hk 100).trans (decide_eq_false (by omega))
  have hlo' : 10 * 1024 ^ (k + 1) ≤ n.natAbs := by omega
  rw [fmt_at hn ha hb hk hlo']
  have ht := st_text0 (sg := sg) hn ha hb (ne0_of hlo') hk
  have h2 : k = 3 ∨ ltF (stage n k) 10240 = true := hhi.imp id fun h => (st_lt hn ha hb hk 10240).trans (decide_eq_true h)
  match k, hk with
  | 0, _ => exact (at_two h1 (h2.resolve_left (by decide))).trans (by rw [ht]; rfl)
  | 1, _ => exact (at_two h1 (h2.resolve_left (by decide))).trans (by rw [ht]; rfl)
  | 2, _ => exact (at_two h1 (h2.resolve_left (by decide))).trans (by rw [ht]; rfl)
  | 3, _ => exact (at_last h1).trans (by rw [ht]; rfl)
theorem fmt_small (hn : n.natAbs = a * 2 ^ b) (ha : a < 2 ^ 53) (hb : b ≤ 200) (h0 : n.natAbs ≠ 0) (hhi : n.natAbs < 10240) : fmt n sg = fig (decide (n < 0)) sg n.natAbs ++ Str.ofString " " ++ unitOf 0 := by
  unfold fmt
  rw [if_pos hhi, int_text0 hn ha hb h0]
  rfl
end
end Mine
end

-- part Pl5
section
open PySem PySem.W PyProof.Rows PySem.Float64
set_option maxRecDepth 100000
set_option maxHeartbeats 1000000
namespace Mine
def paN (A H : Nat) : Nat := if 0 < H ∧ A < 100 * 1024 ^ H then 10 else 1
def faN (A H : Nat) : Nat := A * paN A H * 1024 ^ (4 - H)
def ctN (A H : Nat) : Nat := halfEven (faN A H) (1024 ^ 4)
structure Sized (A H : Nat) : Prop where
  rep : ∃ a e, A = a * 2 ^ e ∧ a < 2 ^ 50 ∧ e ≤ 44
  low : 100 ≤ A
  top : H ≤ 4
  lo : H = 0 ∨ 10 * 1024 ^ H ≤ A
  hi : H = 4 ∨ A < 10 * 1024 ^ (H + 1)
section
variable {A H : Nat} {n : Int} {sg : Bool}
theorem fa_rep (S : Sized A H) : ∃ a b, faN A H = a * 2 ^ b ∧ a < 2 ^ 53 ∧ b ≤ 200 := by
  obtain ⟨a, e, rfl, ha, he⟩ := S.rep
  have e2 : (1024 : Nat) ^ (4 - H) = 2 ^ (10 * (4 - H)) := by rw [Nat.pow_mul]
  unfold faN paN
  rw [e2]
  split
  · refine ⟨a * 5, e + (1 + 10 * (4 - H)), ?_, by omega, by omega⟩
    rw [Nat.pow_add, Nat.pow_add]
    have : (10 : Nat) = 5 * 2 ^ 1 := by decide
    rw [this]
    ac_rfl
  · refine ⟨a, e + 10 * (4 - H), ?_, by omega, by omega⟩
    rw [Nat.pow_add, Nat.mul_one, Nat.mul_assoc]
theorem pow4 (hH : H ≤ 4) : 1024 ^ H * 1024 ^ (4 - H) = 1024 ^ 4 := by
  rw [← Nat.pow_add]; congr 1; omega
theorem fa_big (S : Sized A H) : 100 * 1024 ^ 4 ≤ faN A H := by
  rw [← pow4 S.top, ← Nat.mul_assoc]
  unfold faN
  apply Nat.mul_le_mul_right
  have h1 := S.low
  have h2 := S.lo
  unfold paN
  by_cases h0 : H = 0
  · subst h0; simp; omega
  · have h3 := h2.resolve_left h0
    split
    · omega
    · rename_i h
      have : ¬ A < 100 * 1024 ^ H := fun q => h ⟨by omega, q⟩
      omega
theorem ct_pos (S : Sized A H) : 100 ≤ ctN A H := by
  have h1 := fa_big S
  have hU : 0 < (1024 : Nat) ^ 4 := by decide
  have h2 := (half_spec (faN A H) (1024 ^ 4) hU).2.1
  unfold ctN
  generalize (1024 : Nat) ^ 4 = U at *
  generalize faN A H = f at *
  generalize halfEven f U = C at *
  apply Nat.le_of_not_lt
  intro hC
  have h3 : C * U ≤ 99 * U := Nat.mul_le_mul_right _ (by omega)
  have h0 : 0 < U := hU
  generalize C * U = q at *
  omega
theorem far_told (S : Sized A H) (hn : n.natAbs = faN A H) : fmt n sg = fig (decide (n < 0)) sg (ctN A H) ++ Str.ofString " " ++ Str.ofString "TiB" := by
  obtain ⟨a, b, e, ha, hb⟩ := fa_rep S
  have h := fmt_whole (sg := sg) (k := 3) (hn.trans e) ha hb (by decide) (by rw [hn]; exact fa_big S) (.inl rfl)
  rw [hn, show (3 : Nat) + 1 = 4 from rfl] at h
  unfold ctN
  rw [h]
  rfl
theorem amount_told (S : Sized A H) (hn : n.natAbs = A) : fmt n sg = (if paN A H = 10 then figD (decide (n < 0)) sg (ctN A H) else fig (decide (n < 0)) sg (ctN A H)) ++ Str.ofString " " ++ unitOf H := by
  obtain ⟨a, e, ea, ha, he⟩ := S.rep
  have ha' : a < 2 ^ 53 := by omega
  have hb' : e ≤ 200 := by omega
  have hr := hn.trans ea
  have hlow := S.low
  by_cases h0 : H = 0
  · subst h0
    have hA : A < 10240 := by
      have := S.hi.resolve_left (by decide)
      simpa using this
    have hp : paN A 0 = 1 := by unfold paN; simp
    have hc : ctN A 0 = A := by
      unfold ctN faN
      rw [hp, Nat.mul_one]
      have := half_scale A 1 (1024 ^ 4) (by decide)
      rw [Nat.one_mul, half_one] at this
      exact this
    rw [fmt_small hr ha' hb' (by omega) (by omega), hp, hc, hn]
    rfl
  · obtain ⟨k, rfl⟩ : ∃ k, H = k + 1 := ⟨H - 1, by omega⟩
    have hk : k ≤ 3 := by have := S.top; omega
    have hlo := S.lo.resolve_left h0
    have hp4 := pow4 S.top
    by_cases hd : A < 100 * 1024 ^ (k + 1)
    · have hp : paN A (k + 1) = 10 := by unfold paN; rw [if_pos ⟨by omega, hd⟩]
      have hc : ctN A (k + 1) = halfEven (A * 10) (1024 ^ (k + 1)) := by
        unfold ctN faN
        rw [hp, ← hp4]
        exact half_scale _ _ _ (pow_pos' _)
      rw [fmt_dot hr ha' hb' hk (by rw [hn]; exact hlo) (by rw [hn]; exact hd), hp, hc, hn]
      rfl
    · have hp : paN A (k + 1) = 1 := by unfold paN; rw [if_neg (fun q => hd q.2)]
      have hc : ctN A (k + 1) = halfEven A (1024 ^ (k + 1)) := by
        unfold ctN faN
        rw [hp, ← hp4, Nat.mul_one]
        exact half_scale _ _ _ (pow_pos' _)
      have hhi : k = 3 ∨ A < 10240 * 1024 ^ (k + 1) := by
        rcases S.hi with h | h
        · exact .inl (by omega)
        · right
          rw [Nat.pow_succ] at h
          generalize 1024 ^ (k + 1) = P at *
          omega
      rw [fmt_whole hr ha' hb' hk (by rw [hn]; omega) (by rw [hn]; exact hhi), hp, hc, hn]
      rfl
end
end Mine
end

-- part Tx
section
open PySem PySem.W PyProof.Rows PySem.NumText
set_option maxRecDepth 100000
set_option maxHeartbeats 1000000
namespace Mine
def sp : Str := ⟨#[32]⟩
theorem sp_is : Str.ofString " " = sp := by decide +kernel
theorem app_cps (a b : Str) : (a ++ b).cps.toList = a.cps.toList ++ b.cps.toList := by rw [Str.cps_append, Array.toList_append]
theorem ext_l {a b : Str} (h : a.cps.toList = b.cps.toList) : a = b := by
  cases a; cases b
  exact congrArg Str.mk (Array.toList_inj.mp h)
theorem cut_at {c : Nat} : ∀ {a p b q : List Nat}, c ∉ a → c ∉ p → a ++ c :: b = p ++ c :: q → a = p ∧ b = q
  | [], [], b, q, _, _, h => ⟨rfl, by simpa using h⟩
  | [], y :: p, b, q, _, hp, h => by
    simp at h hp
    exact absurd h.1 hp.1
  | x :: a, [], b, q, ha, _, h => by
    simp at h ha
    exact absurd h.1.symm ha.1
  | x :: a, y :: p, b, q, ha, hp, h => by
    simp only [List.cons_append, List.cons.injEq] at h
    have ih := cut_at (c := c) (a := a) (p := p) (fun q => ha (List.mem_cons_of_mem _ q)) (fun q => hp (List.mem_cons_of_mem _ q)) h.2
    exact ⟨by rw [h.1, ih.1], ih.2⟩
theorem split_two {a b : Str} (ha : 32 ∉ a.cps.toList) (hb : 32 ∉ b.cps.toList) : Txt.split (a ++ sp ++ b) sp = [a, b] := by
  have hf := StrLaws.split_free (a ++ sp ++ b) 32
  have hj := StrLaws.join_split (a ++ sp ++ b) sp
  have hj' := congrArg (fun z : Str => z.cps.toList) hj
  simp only [app_cps] at hj'
  have hs : sp.cps.toList = [32] := rfl
  rw [hs] at hj'
  show Txt.split (a ++ sp ++ b) ⟨#[32]⟩ = _
  change (Str.join sp (Txt.split (a ++ sp ++ b) ⟨#[32]⟩)).cps.toList = _ at hj'
  generalize Txt.split (a ++ sp ++ b) ⟨#[32]⟩ = ps at *
  have hmem : 32 ∈ a.cps.toList ++ [32] ++ b.cps.toList := by simp
  match ps with
  | [] =>
    have : (Str.join sp []).cps.toList = [] := rfl
    rw [this] at hj'
    rw [← hj'] at hmem
    cases hmem
  | [p] =>
    have : (Str.join sp [p]).cps.toList = p.cps.toList := rfl
    rw [this] at hj'
    rw [← hj'] at hmem
    exact absurd hmem (hf p (by simp))
  | p :: q :: r =>
    have e : (Str.join sp (p :: q :: r)).cps.toList = p.cps.toList ++ [32] ++ (Str.join sp (q :: r)).cps.toList := by
      show (p ++ sp ++ Str.join sp (q :: r)).cps.toList = _
      rw [app_cps, app_cps, hs]
    rw [e] at hj'
    simp only [List.append_assoc, List.singleton_append] at hj'
    obtain ⟨h1, h2⟩ := cut_at (hf p (by simp)) ha hj'
    have h3 : p = a := ext_l h1
    match r with
    | [] =>
      have : (Str.join sp [q]).cps.toList = q.cps.toList := rfl
      rw [this] at h2
      rw [h3, ext_l h2]
    | t :: r' =>
      have e2 : (Str.join sp (q :: t :: r')).cps.toList = q.cps.toList ++ [32] ++ (Str.join sp (t :: r')).cps.toList := by
        show (q ++ sp ++ Str.join sp (t :: r')).cps.toList = _
        rw [app_cps, app_cps, hs]
      rw [e2] at h2
      exact absurd (by rw [← h2]; simp) hb
theorem fig_cps (neg sg : Bool) (C : Nat) : (fig neg sg C).cps.toList = mark neg sg ++ dg C := rfl
theorem mark_cases (neg sg : Bool) : mark neg sg = [45] ∧ neg = true ∨ mark neg sg = [43] ∧ neg = false ∧ sg = true ∨ mark neg sg = [] ∧ neg = false ∧ sg = false := by
  cases neg <;> cases sg <;> simp [mark]
theorem fig_free (neg sg : Bool) (C : Nat) : 32 ∉ (fig neg sg C).cps.toList := by
  rw [fig_cps]
  intro h
  rcases List.mem_append.mp h with h | h
  · rcases mark_cases neg sg with ⟨e, _⟩ | ⟨e, _⟩ | ⟨e, _⟩ <;> rw [e] at h <;> simp at h
  · have := dg_range h
    omega
theorem dg_all (C : Nat) : AllDigits (dg C) := fun _ h => dg_range h
theorem dg_val (C : Nat) : digitsVal (dg C) = C := KIN.val_back C
theorem intText_pos {x : Str} {cs : List Nat} (hx : x.cps.toList = 43 :: cs) (h : AllDigits cs) (h1 : cs ≠ []) (h2 : x.length ≤ 4300) : PySem.intText? x = some ((digitsVal cs : Nat) : Int) := by
  have hs : ∀ c ∈ x.cps.toList, c = 43 ∨ (48 ≤ c ∧ c ≤ 57) := by
    rw [hx]
    intro c hc
    rcases List.mem_cons.mp hc with e | hc
    · exact Or.inl e
    · exact Or.inr (h c hc)
  have hl : x.cps.toList.length = x.length := Array.length_toList
  have e1 : numTextOf x = x.cps.toList := by
    refine if_pos ?_
    rw [← Array.all_toList, List.all_eq_true]
    intro c hc
    have := hs c hc
    exact decide_eq_true (by omega)
  have e2 : numSeenOf x = x.cps.toList := by
    show (numTextOf x).takeWhile _ = _
    rw [e1]
    refine takeWhile_all fun c hc => ?_
    have := hs c hc
    exact bne_iff_ne.mpr (by omega)
  unfold PySem.intText?
  rw [e1, e2, if_pos (beq_self_eq_true _), hx]
  rw [hx, List.length_cons] at hl
  have es : sign ((43 :: cs).dropWhile blank) = (false, cs) := by rw [dropWhile_of (by decide)]; rfl
  have ec : core (43 :: cs) = cs := by
    unfold core
    rw [es]
    show (cs.reverse.dropWhile blank).reverse = cs
    rw [dropWhile_digits h.reverse, List.reverse_reverse]
  rw [ec, es, digits_of h h1]
  have hsz := push_size cs #[]
  have hv := push_foldl cs #[]
  show (if _ ≤ 4300 then some (worth false _) else none) = _
  rw [if_pos (by rw [hsz]; simp only [Array.size_empty]; omega)]
  unfold worth digitsVal
  rw [hv]
  rfl
theorem fig_len {neg sg : Bool} {C : Nat} : (fig neg sg C).length ≤ (dg C).length + 1 := by
  show (mark neg sg ++ dg C).toArray.size ≤ _
  rw [List.size_toArray, List.length_append]
  rcases mark_cases neg sg with ⟨e, _⟩ | ⟨e, _⟩ | ⟨e, _⟩ <;> rw [e] <;> simp <;> omega
theorem fig_int {neg sg : Bool} {C : Nat} (hC : (dg C).length ≤ 400) : ∃ i : Int, PySem.intText? (fig neg sg C) = some i ∧ (if i < 0 then -i else i) = (C : Int) := by
  have hl := fig_len (neg := neg) (sg := sg) (C := C)
  rcases mark_cases neg sg with ⟨e, _⟩ | ⟨e, _⟩ | ⟨e, _⟩
  · have h := intText_neg (x := fig neg sg C) (cs := dg C) (by rw [fig_cps, e]; rfl) (dg_all C) (dg_ne C) (by omega)
    rw [dg_val] at h
    exact ⟨_, h, by split <;> omega⟩
  · have h := intText_pos (x := fig neg sg C) (cs := dg C) (by rw [fig_cps, e]; rfl) (dg_all C) (dg_ne C) (by omega)
    rw [dg_val] at h
    exact ⟨_, h, by split <;> omega⟩
  · have e2 : (fig neg sg C).cps.toList = dg C := by rw [fig_cps, e]; rfl
    have h := intText_digits (x := fig neg sg C) (by rw [e2]; exact dg_all C) (by rw [e2]; exact dg_ne C) (by omega)
    rw [e2, dg_val] at h
    exact ⟨_, h, by split <;> omega⟩
/-- the number's own text, behind its mark -/
theorem fig_text (neg sg : Bool) (C : Nat) : fig neg sg C = (if neg then Str.ofString "-" else if sg then Str.ofString "+" else Str.ofString "") ++ Str.ofString (toString (C : Int)) := by
  apply ext_l
  rw [app_cps, KIN.signs_num, fig_cps]
  have e1 : (Str.ofString "-").cps.toList = [45] := by decide +kernel
  have e2 : (Str.ofString "+").cps.toList = [43] := by decide +kernel
  have e3 : (Str.ofString "").cps.toList = [] := by decide +kernel
  rcases mark_cases neg sg with ⟨e, h1⟩ | ⟨e, h1, h2⟩ | ⟨e, h1, h2⟩
  · subst h1; rw [e]; simp only [if_true, e1]; rfl
  · subst h1; subst h2; rw [e]; simp only [if_true, Bool.false_eq_true, if_false, e2]; rfl
  · subst h1; subst h2; rw [e]; simp only [Bool.false_eq_true, if_false, e3]; rfl
theorem dg_small {C k : Nat} (hk : 1 ≤ k) (h : C < 10 ^ k) : (dg C).length ≤ k := by
  have := PySem.Flt.repr_len hk h
  rw [Nat.toList_repr] at this
  unfold dg
  rw [List.length_map]
  exact this
end Mine
end

-- part Bd0
section
open PySem PySem.W PyProof.Rows
set_option maxRecDepth 100000
set_option maxHeartbeats 8000000
namespace Mine
def lawBody : List Stmt := match PySem.Challenge.pw_dn0231_01.main.body with
  | [_, _, _, .FunctionDef _ _ b _ _ _ _ _ _ _] => b
  | _ => []
def lawScope : Scope := match PySem.Challenge.pw_dn0231_01.main.body with
  | [_, _, _, .FunctionDef _ _ _ _ _ _ sc _ _ _] => sc
  | _ => default
def forBody : List Stmt := match lawBody with
  | [_, _, _, .For _ _ b _ _, _] => b
  | _ => []
def forIter : Expr := match lawBody with
  | [_, _, _, .For _ i _ _ _, _] => i
  | _ => .Name default default
def valueOf : Option Stmt → Expr
  | some (.Assign _ v _) => v
  | some (.If t _ _ _) => t
  | _ => .Name default default
def stm (i : Nat) : Option Stmt := forBody[i]?
def thenOf : Option Stmt → Option Stmt
  | some (.If _ b _ _) => b[0]?
  | _ => none
end Mine
end

-- part Cm
section
open PySem PySem.W PyProof.Rows
set_option maxRecDepth 100000
set_option maxHeartbeats 2000000
namespace Mine
def compExpr : Expr := match valueOf (stm 1) with
  | .Call _ [c] _ _ => c
  | e => e
def pAm (am : Int) : Value → Bool
  | .int k _ => decide (10 * 1024 ^ k.toNat ≤ am)
  | _ => false
def highOf (am : Int) : Nat := ([1, 2, 3, 4] : List Int).countP fun k => decide (10 * 1024 ^ k.toNat ≤ am)
theorem paired_len {α β : Type} {F : α → β → Prop} {l₁ : List α} {l₂ : List β} (h : Paired F l₁ l₂) : l₁.length = l₂.length := by
  induction h with
  | nil => rfl
  | cons _ _ ih => simp [ih]
theorem filt_len {am : Int} {vs : List Value} (hl : vs.length = 4) (hP : ∀ (j : Nat) v, vs[j]? = some v → j < 4 ∧ ∃ t, v = Value.int (1 + (j : Int) * 1) t) : (vs.filter (pAm am)).length = highOf am := by
  match vs, hl with
  | [a, b, c, d], _ =>
    obtain ⟨-, t0, rfl⟩ := hP 0 a rfl
    obtain ⟨-, t1, rfl⟩ := hP 1 b rfl
    obtain ⟨-, t2, rfl⟩ := hP 2 c rfl
    obtain ⟨-, t3, rfl⟩ := hP 3 d rfl
    unfold highOf
    rw [List.countP_eq_length_filter]
    simp only [List.filter_cons, List.filter_nil, pAm]
    simp only [show ((1 : Int) + ((0 : Nat) : Int) * 1) = 1 from rfl, show ((1 : Int) + ((1 : Nat) : Int) * 1) = 2 from rfl, show ((1 : Int) + ((2 : Nat) : Int) * 1) = 3 from rfl, show ((1 : Int) + ((3 : Nat) : Int) * 1) = 4 from rfl]
    repeat' split
    all_goals first | rfl | simp_all
local macro_rules | `(tactic| walk_at "call type:range") => `(tactic| (k_here; refine call_range_2 ?_))
theorem comp1 (w : World) {mean : ExcName → Option Value} {mg mb : Str → Option Value} {dp un : Nat} {fr : Option (List Env)} {gd : Option (List Code)} {h₀ : Heap} {L fa : Addr} {cd : Value} {s : Shared} {m : Str → Option Value} {Q : Value → Shared → Prop} {E : Value → Shared → Prop} {oc : Obj}
    (X : (hd0231.heap_39 w.params).In h₀) (T : Top hd0231.view_39 (looseW hd0231.view_39 []) mean mg mb h₀)
    (F : Fr h₀ L s.heap m) (N : News h₀ L s.heap [(L + 1, oc)]) {am : Int} {tam : Tok} (hoc : oc.data = .cell (some (.int am tam)))
    (h : ∀ D h' tk ys, h'.IsList D ys → ys.size = highOf am → (∀ b o, s.heap.get? b = some o → h'.get? b = some o) → Q (.ref D) { s with heap := h', toks := tk }) :
    wpAny (model Challenge.rw_dn0231_01.row.prog w) ⟨none, dp, fr, gd, un⟩ (eval compExpr (envOfC (Str.ofString "law") lawScope L fa cd)) Q E s := by
  w_on
  w_top on
  revert X; k_fill; intro X
  dsimp only [compExpr, valueOf, stm, forBody, lawBody, lawScope, Challenge.pw_dn0231_01, List.getElem?_cons_zero, List.getElem?_cons_succ]
  refine wpAny_ListComp_free (cl := [(Str.ofString "amount", L + 1)]) (pAm am) (fun _ _ => True) rfl (by decide) rfl (by decide) rfl ?_
  refine wpAny_mono (Q := fun xv s₁ => ∃ r t u v h' tk, xv = .ref r ∧ IsRange h' r 1 5 1 t u v ∧ s₁ = { s with heap := h', toks := tk } ∧ ∀ b o, s.heap.get? b = some o → h'.get? b = some o) ?_ ?_ (fun _ _ e => e)
  · w_strict (repeat' (first | ((with_reducible show ∃ r t u v h' tk, _); exact ⟨_, _, _, _, _, _, rfl, IsRange.new _ _ _ _ _ _ _, rfl, fun b o e => Heap.get?_push_of_some _ e⟩) | walk1 | (dsimp only; walk1) | fail "no step"))
  · rintro _ _ ⟨r, t, u, v, h₁, tk₁, rfl, hr, rfl, k₁⟩
    refine wpAny_pyIter_range hr (by decide) ?_
    have hsz : Builtin.Range.rangeSize 1 5 1 = 4 := by decide
    rw [hsz]
    refine ⟨_, [h₁.objs.size], [h₁.objs.size], 4, _, _, rfl, (Walks.range rfl _ 1 1 4).bound, by rw [sizeLine_eq]; decide, ?_, ?_, ?_, ?_⟩
    · exact Heap.get?_push_size _ rfl
    · intro b hb
      rw [List.mem_singleton.mp hb, Heap.size_push]
      exact Nat.lt_succ_self _
    · refine ⟨fun C i v s₃ m₃ E' hC hP hn hm hk htk => ?_, fun C i v s₃ m₃ E' hC hP hpv hn hm hk htk => ?_⟩
      · obtain ⟨hi, tv, rfl⟩ := hP
        have hcell : s₃.heap.IsCell (L + 1) (some (.int am tam)) := by
          have hg := (N _ (.head _)).1
          refine ⟨oc, hk _ _ ?_ (Heap.get?_push_of_some _ (k₁ _ _ hg)), hoc⟩
          intro hb
          rw [List.mem_singleton] at hb
          exact absurd (Heap.lt_size (k₁ _ _ hg)) (by rw [hb]; exact Nat.lt_irrefl _)
        simp only [List.forIn_cons, List.forIn_nil, if_true]
        refine wpAny_bind (wpAny_bind (wpAny_isTrue_Compare1 ?_))
        refine wpAny_Name (wpAny_loadName_cell rfl rfl rfl hcell ?_) (by decide)
        refine wpAny_BinOp (wpAny_Constant_int (wpAny_BinOp (wpAny_Constant_int (wpAny_Name (wpAny_loadName_local rfl rfl hn hm ?_) (by decide)))))
        refine pow_int_small (by omega) (by omega) (by decide) ?_
        refine PyProof.Rows.mul_int ?_ (IntMulOk.of_left (by decide))
        refine PyProof.Rows.ge_int (wpAny_truthy_bool (wpAny_pure (wpAny_pure ⟨rfl, _, _, rfl, fun _ _ e => e⟩)))
      · obtain ⟨hi, tv, rfl⟩ := hP
        exact wpAny_Name (wpAny_loadName_local rfl rfl hn hm ⟨trivial, s₃.heap, s₃.toks, rfl, fun _ _ e => e⟩) (by decide)
    · intro D h' tk ys vs hD hl _ hlen hP hF hk
      refine h D h' tk ys hl ?_ fun b o e => hk b o ?_ (Heap.get?_push_of_some _ (k₁ b o e))
      · rw [← filt_len hlen hP, paired_len hF, Array.length_toList]
      · intro hb
        rw [List.mem_singleton.mp hb] at e
        exact absurd (Heap.lt_size (k₁ _ _ e)) (Nat.lt_irrefl _)
end Mine
end

-- part Ck
section
open PySem PySem.W PyProof.Rows
set_option maxRecDepth 100000
set_option maxHeartbeats 2000000
namespace Mine
def Kept (h h' : Heap) : Prop := ∀ b o, h.get? b = some o → h'.get? b = some o
theorem Kept.trans {h h' h'' : Heap} (a : Kept h h') (b : Kept h' h'') : Kept h h'' := fun c o e => b c o (a c o e)
theorem Kept.refl (h : Heap) : Kept h h := fun _ _ e => e
theorem highOf_le (am : Int) : highOf am ≤ 4 := List.countP_le_length
theorem len_K {prog : Program} {w : World} {A : Around} {E : Value → Shared → Prop} {s : Shared} {Q : Value → Shared → Prop} {D : Addr} {ys : Array Value} {am : Int} (hD : s.heap.IsList D ys) (hs : ys.size = highOf am)
    (h : ∀ t tk, Q (.int (highOf am : Nat) t) { s with toks := tk }) : wpAny (model prog w) A (call (.builtin "len") [.ref D]) Q E s := by
  have := highOf_le am
  refine PyProof.Rows.len_list hD (by omega) ?_
  rw [hs]
  exact h _ _
theorem comp_K (w : World) {mean : ExcName → Option Value} {mg mb : Str → Option Value} {dp un : Nat} {fr : Option (List Env)} {gd : Option (List Code)} {h₀ : Heap} {L fa : Addr} {cd : Value} {s : Shared} {m : Str → Option Value} {Q : Value → Shared → Prop} {E : Value → Shared → Prop} {oc : Obj}
    (X : (hd0231.heap_39 w.params).In h₀) (T : Top hd0231.view_39 (looseW hd0231.view_39 []) mean mg mb h₀)
    (F : Fr h₀ L s.heap m) (N : News h₀ L s.heap [(L + 1, oc)]) {am : Int} {tam : Tok} (hoc : oc.data = .cell (some (.int am tam)))
    (h : ∀ D h' tk ys, h'.IsList D ys → ys.size = highOf am → Kept s.heap h' → Q (.ref D) { s with heap := h', toks := tk }) :
    wpAny (model Challenge.rw_dn0231_01.row.prog w) ⟨none, dp, fr, gd, un⟩ (eval compExpr (envOfC (Str.ofString "law") lawScope L fa cd)) Q E s := comp1 w X T F N hoc h
theorem fs_K (w : World) {mean : ExcName → Option Value} {mg mb : Str → Option Value} {n : Int} {t : Tok} {sg : Bool} {dp un : Nat} {fr : Option (List Env)} {gd : Option (List Code)} {s : Shared} {Q E : Value → Shared → Prop} {h₀ : Heap} {L : Addr} {m : Str → Option Value}
    (X : (hd0231.heap_39 w.params).In h₀) (T : Top hd0231.view_39 (looseW hd0231.view_39 []) mean mg mb h₀) (F : Fr h₀ L s.heap m) (hroom : dp + 1 < recursionLimit) (hn : n.natAbs < 2 ^ 1023) (hn2 : ¬ Float64.isInf (Float64.ofInt n) = true)
    (h : ∀ t' h' tk, Fr h₀ L h' m → Kept s.heap h' → Q (.str (fmt n sg) t') { s with heap := h', toks := tk }) :
    wpAny (model Challenge.rw_dn0231_01.row.prog w) ⟨none, dp, fr, gd, un⟩ (call (.ref 21) [.int n t, .bool sg]) Q E s :=
  fs_call w (X.keeps F.keep) (T.keeps F.keep) hroom hn hn2 fun t' h' tk k => h t' h' tk ⟨F.ns.keeps k, fun b o e => k b o (F.keep b o e), F.above⟩ k
theorem split_K {prog : Program} {w : World} {A : Around} {E : Value → Shared → Prop} {s : Shared} {Q : Value → Shared → Prop} {x a b : Str} {t u : Tok} (hx : x = a ++ Str.ofString " " ++ b) (ha : 32 ∉ a.cps.toList) (hb : 32 ∉ b.cps.toList) (hl : a.length + b.length ≤ 10000)
    (h : ∀ D t1 t2 h' tk, h'.IsList D #[.str a t1, .str b t2] → Kept s.heap h' → Q (.ref D) { s with heap := h', toks := tk }) :
    wpAny (model prog w) A (call (.builtin "str.split") [.str x t, .str (Str.ofString " ") u]) Q E s := by
  have hsp := split_two ha hb
  rw [sp_is] at hx ⊢
  subst hx
  have hxl : (a ++ sp ++ b).length ≤ 10001 := by
    rw [Str.length_append, Str.length_append]
    have : sp.length = 1 := rfl
    omega
  have hpl : (Builtin.Str.partsBetween (a ++ sp ++ b) (Builtin.Str.occurrences (a ++ sp ++ b) sp 0 (a ++ sp ++ b).length ((a ++ sp ++ b).length + 1)) sp.length).length ≤ sizeLine := by
    have ho := StrLaws.occ_length_le (a ++ sp ++ b) sp 0 (a ++ sp ++ b).length ((a ++ sp ++ b).length + 1)
    unfold Builtin.Str.partsBetween
    rw [sizeLine_eq]
    simp only [List.length_map, List.length_zip, List.length_cons, List.length_append, List.length_nil]
    omega
  refine SCG.split1 (Fm := fun s' => ∃ h' tk, s' = { s with heap := h', toks := tk } ∧ ∀ c o, s.heap.get? c = some o → h'.get? c = some o) ?_ ⟨s.heap, s.toks, rfl, fun _ _ e => e⟩ rfl ?_ (by rw [sizeLine_eq]; omega) hpl
  · rintro _ ob k ⟨h', tk, rfl, hk⟩
    exact ⟨_, _, rfl, fun c o e => Heap.get?_push_of_some _ (hk c o e)⟩
  · rintro D l _ hm ⟨h', tk, rfl, hk⟩ hD
    rw [hsp] at hm
    match l, hm with
    | [(p, t1), (q, t2)], hm =>
      simp only [List.map_cons, List.map_nil, List.cons.injEq, and_true] at hm
      obtain ⟨rfl, rfl⟩ := hm
      exact h D t1 t2 h' tk hD hk
theorem slice_K {prog : Program} {w : World} {A : Around} {E : Value → Shared → Prop} {s : Shared} {value slice : Expr} {x : Str} {t : Tok} {h₀ : Heap} {L : Addr} {m : Str → Option Value} {Q : Value → Shared → Prop} {j : Int} {uj : Tok} (hF : Fr h₀ L s.heap m)
    (hsz : x.length ≤ 640) (h : ∀ h' t' k, Fr h₀ L h' m → Kept s.heap h' → Q (.str (Txt.slice x none (some j)) t') { s with heap := h', toks := k })
    (hs : subscripted slice false (.str x t) (.ref s.heap.objs.size) = operate [.ref s.heap.objs.size, .str x t] (getItem (.str x t) (.ref s.heap.objs.size)) := by with_unfolding_all rfl)
    (ht : ∀ r, letTemporaryGo value (.str x t) r = pure () := by intro _; with_unfolding_all rfl) :
    wpAny (model prog w) A (subscriptTail value slice (.str x t) (.ref s.heap.objs.size)) Q E { s with heap := s.heap.push { cls := .type "slice", data := .fields #[.none, .int j uj, .none] } } :=
  tail_of_ItemOn (SBH.sliceItem_ns (P := fun h' => Fr h₀ L h' m ∧ Kept s.heap h') (fun h o p => ⟨⟨p.1.ns.keeps fun b o' e => Heap.get?_push_of_some _ e, fun b o' e => Heap.get?_push_of_some _ (p.1.keep b o' e), p.1.above⟩, fun b o' e => Heap.get?_push_of_some _ (p.2 b o' e)⟩)
    ⟨hF, Kept.refl _⟩ (fun h' t' k p => h h' t' k p.1 p.2) (by rw [sizeLine_eq]; omega)) hs ht
theorem listKept {h h' : Heap} {l : Addr} {items : Array Value} (hl : h.IsList l items) (k : Kept h h') : h'.IsList l items := hl.at fun o e => k l o e
theorem int_K {prog : Program} {w : World} {A : Around} {E : Value → Shared → Prop} {s : Shared} {Q : Value → Shared → Prop} {x : Str} {t : Tok} {i : Int} (hi : PySem.intText? x = some i) (hl : x.length ≤ 640)
    (h : ∀ t tk, Q (.int i t) { s with toks := tk }) : wpAny (model prog w) A (call (.type "int") [.str x t]) Q E s := KIN.call_text hi hl (h _ _)
end Mine
end

-- part EVA
section
open PySem PySem.W PyProof.Rows
set_option maxRecDepth 100000
set_option maxHeartbeats 2000000
namespace Mine
local macro_rules | `(tactic| walk_at "eval Name") => `(tactic| (k_here; k_dflt (refine' nameX_L ?F ?v ?_ ?a ?b; (case F => k_asm); (case a => rfl); (case b => rfl); (case v => with_reducible assumption); k_whole)))
local macro_rules | `(tactic| walk_at "binaryOp Mult int int") => `(tactic| (k_here; with_reducible refine PyProof.Rows.mul_int ?_ (by first | with_reducible assumption | exact IntMulOk.of_left (by decide))))
local macro_rules | `(tactic| walk_at "binaryOp Pow int int") => `(tactic| (k_here; (with_reducible refine pow_int_small ?kb1 ?kb2 ?kb3 ?_); (case kb1 => first | decide | with_reducible assumption); (case kb2 => first | decide | with_reducible assumption); (case kb3 => decide)))
theorem ev0 (w : World) {mean : ExcName → Option Value} {mg mb : Str → Option Value} {dp un : Nat} {fr : Option (List Env)} {gd : Option (List Code)} {h₀ : Heap} {L fa : Addr} {cd : Value} {s : Shared} {m : Str → Option Value} {Q : Value → Shared → Prop} {E : Value → Shared → Prop} {oc : Obj}
    (X : (hd0231.heap_39 w.params).In h₀) (T : Top hd0231.view_39 (looseW hd0231.view_39 []) mean mg mb h₀)
    (F : Fr h₀ L s.heap m) (N : News h₀ L s.heap [(L + 1, oc)]) {x : Int} {tx : Tok} (hx : m (Str.ofString "x") = some (.int x tx)) {y : Int} {ty : Tok} (hy : m (Str.ofString "y") = some (.int y ty)) (hp1 : 0 ≤ y.fmod 45) (hp2 : y.fmod 45 ≤ 1000000) (hm : IntMulOk (100 + Int.fmod (if x < 0 then -x else x) (2 ^ Int.toNat 50 - 100)) (2 ^ (y.fmod 45).toNat))
    (h : ∀ t tk, Q (.int ((100 + Int.fmod (if x < 0 then -x else x) (2 ^ Int.toNat 50 - 100)) * 2 ^ (y.fmod 45).toNat) t) { s with toks := tk }) :
    wpAny (model Challenge.rw_dn0231_01.row.prog w) ⟨none, dp, fr, gd, un⟩ (eval (valueOf (stm 0)) (envOfC (Str.ofString "law") lawScope L fa cd)) Q E s := by
  w_on
  w_top on
  revert X; k_fill; intro X
  dsimp only [valueOf, thenOf, stm, forBody, lawBody, lawScope, Challenge.pw_dn0231_01, List.getElem?_cons_zero, List.getElem?_cons_succ]
  w_strict (repeat' (first | ((with_reducible show Q (Value.int _ _) _); exact h _ _) | walk1 | (dsimp only; walk1) | fail "no step"))
theorem ev2 (w : World) {mean : ExcName → Option Value} {mg mb : Str → Option Value} {dp un : Nat} {fr : Option (List Env)} {gd : Option (List Code)} {h₀ : Heap} {L fa : Addr} {cd : Value} {s : Shared} {m : Str → Option Value} {Q : Value → Shared → Prop} {E : Value → Shared → Prop} {oc : Obj}
    (X : (hd0231.heap_39 w.params).In h₀) (T : Top hd0231.view_39 (looseW hd0231.view_39 []) mean mg mb h₀)
    (F : Fr h₀ L s.heap m) (N : News h₀ L s.heap [(L + 1, oc)]) {am : Int} {tam : Tok} (hoc : oc.data = .cell (some (.int am tam))) {hi : Int} {thi : Tok} (hhi : m (Str.ofString "high") = some (.int hi thi)) (h0 : 0 ≤ hi) (h4 : hi ≤ 1000000)
    (h : ∀ t tk, Q (.int (if 0 < hi ∧ am < 100 * 1024 ^ hi.toNat then 10 else 1) t) { s with toks := tk }) :
    wpAny (model Challenge.rw_dn0231_01.row.prog w) ⟨none, dp, fr, gd, un⟩ (eval (valueOf (stm 2)) (envOfC (Str.ofString "law") lawScope L fa cd)) Q E s := by
  w_on
  w_top on
  revert X; k_fill; intro X
  dsimp only [valueOf, thenOf, stm, forBody, lawBody, lawScope, Challenge.pw_dn0231_01, List.getElem?_cons_zero, List.getElem?_cons_succ]
  w_strict (repeat' (first | ((with_reducible show Q (Value.int _ _) _); first | (have e9 : (if 0 < hi ∧ am < 100 * 1024 ^ hi.toNat then (10 : Int) else 1) = 10 := if_pos ⟨by assumption, by assumption⟩; rw [e9] at h; exact h _ _) | (have e9 : (if 0 < hi ∧ am < 100 * 1024 ^ hi.toNat then (10 : Int) else 1) = 1 := if_neg (by intro q; first | exact absurd q.1 (by assumption) | exact absurd q.2 (by assumption)); rw [e9] at h; exact h _ _)) | walk1 | (dsimp only; walk1) | fail "no step"))
theorem ev3 (w : World) {mean : ExcName → Option Value} {mg mb : Str → Option Value} {dp un : Nat} {fr : Option (List Env)} {gd : Option (List Code)} {h₀ : Heap} {L fa : Addr} {cd : Value} {s : Shared} {m : Str → Option Value} {Q : Value → Shared → Prop} {E : Value → Shared → Prop} {oc : Obj}
    (X : (hd0231.heap_39 w.params).In h₀) (T : Top hd0231.view_39 (looseW hd0231.view_39 []) mean mg mb h₀)
    (F : Fr h₀ L s.heap m) (N : News h₀ L s.heap [(L + 1, oc)]) {am : Int} {tam : Tok} (hoc : oc.data = .cell (some (.int am tam))) {hi : Int} {thi : Tok} (hhi : m (Str.ofString "high") = some (.int hi thi)) {pa : Int} {tpa : Tok} (hpa : m (Str.ofString "parts") = some (.int pa tpa)) (h0 : 0 ≤ 4 - hi) (h4 : 4 - hi ≤ 1000000) (hm1 : IntMulOk am pa) (hm2 : IntMulOk (am * pa) (1024 ^ (4 - hi).toNat))
    (h : ∀ t tk, Q (.int (am * pa * 1024 ^ (4 - hi).toNat) t) { s with toks := tk }) :
    wpAny (model Challenge.rw_dn0231_01.row.prog w) ⟨none, dp, fr, gd, un⟩ (eval (valueOf (stm 3)) (envOfC (Str.ofString "law") lawScope L fa cd)) Q E s := by
  w_on
  w_top on
  revert X; k_fill; intro X
  dsimp only [valueOf, thenOf, stm, forBody, lawBody, lawScope, Challenge.pw_dn0231_01, List.getElem?_cons_zero, List.getElem?_cons_succ]
  w_strict (repeat' (first | ((with_reducible show Q (Value.int _ _) _); exact h _ _) | walk1 | (dsimp only; walk1) | fail "no step"))
theorem ev4 (w : World) {mean : ExcName → Option Value} {mg mb : Str → Option Value} {dp un : Nat} {fr : Option (List Env)} {gd : Option (List Code)} {h₀ : Heap} {L fa : Addr} {cd : Value} {s : Shared} {m : Str → Option Value} {Q : Value → Shared → Prop} {E : Value → Shared → Prop} {oc : Obj}
    (X : (hd0231.heap_39 w.params).In h₀) (T : Top hd0231.view_39 (looseW hd0231.view_39 []) mean mg mb h₀)
    (F : Fr h₀ L s.heap m) (N : News h₀ L s.heap [(L + 1, oc)]) {x : Int} {tx : Tok} (hx : m (Str.ofString "x") = some (.int x tx))
    (h : ∀ t tk, Q (.int (if x < 0 then -1 else 1) t) { s with toks := tk }) :
    wpAny (model Challenge.rw_dn0231_01.row.prog w) ⟨none, dp, fr, gd, un⟩ (eval (valueOf (stm 4)) (envOfC (Str.ofString "law") lawScope L fa cd)) Q E s := by
  w_on
  w_top on
  revert X; k_fill; intro X
  dsimp only [valueOf, thenOf, stm, forBody, lawBody, lawScope, Challenge.pw_dn0231_01, List.getElem?_cons_zero, List.getElem?_cons_succ]
  w_strict (repeat' (first | ((with_reducible show Q (Value.int _ _) _); first | (have e9 : (if x < 0 then (-1 : Int) else 1) = -1 := if_pos (by assumption); rw [e9] at h; exact h _ _) | (have e9 : (if x < 0 then (-1 : Int) else 1) = 1 := if_neg (by assumption); rw [e9] at h; exact h _ _)) | walk1 | (dsimp only; walk1) | fail "no step"))
theorem ev5 (w : World) {mean : ExcName → Option Value} {mg mb : Str → Option Value} {dp un : Nat} {fr : Option (List Env)} {gd : Option (List Code)} {h₀ : Heap} {L fa : Addr} {cd : Value} {s : Shared} {m : Str → Option Value} {Q : Value → Shared → Prop} {E : Value → Shared → Prop} {oc : Obj}
    (X : (hd0231.heap_39 w.params).In h₀) (T : Top hd0231.view_39 (looseW hd0231.view_39 []) mean mg mb h₀)
    (F : Fr h₀ L s.heap m) (N : News h₀ L s.heap [(L + 1, oc)]) {pl : Int} {tpl : Tok} (hpl : m (Str.ofString "place") = some (.int pl tpl))
    (h : ∀ tk, Q (.bool (pl.fmod 2 == 1)) { s with toks := tk }) :
    wpAny (model Challenge.rw_dn0231_01.row.prog w) ⟨none, dp, fr, gd, un⟩ (eval (valueOf (stm 5)) (envOfC (Str.ofString "law") lawScope L fa cd)) Q E s := by
  w_on
  w_top on
  revert X; k_fill; intro X
  dsimp only [valueOf, thenOf, stm, forBody, lawBody, lawScope, Challenge.pw_dn0231_01, List.getElem?_cons_zero, List.getElem?_cons_succ]
  w_strict (repeat' (first | ((with_reducible show Q (Value.bool _) _); exact h _) | walk1 | (dsimp only; walk1) | fail "no step"))
theorem ev8 (w : World) {mean : ExcName → Option Value} {mg mb : Str → Option Value} {dp un : Nat} {fr : Option (List Env)} {gd : Option (List Code)} {h₀ : Heap} {L fa : Addr} {cd : Value} {s : Shared} {m : Str → Option Value} {Q : Value → Shared → Prop} {E : Value → Shared → Prop} {oc : Obj}
    (X : (hd0231.heap_39 w.params).In h₀) (T : Top hd0231.view_39 (looseW hd0231.view_39 []) mean mg mb h₀)
    (F : Fr h₀ L s.heap m) (N : News h₀ L s.heap [(L + 1, oc)]) {ct : Int} {tct : Tok} (hct : m (Str.ofString "count") = some (.int ct tct)) {fr9 : Int} {tfr9 : Tok} (hfr9 : m (Str.ofString "far") = some (.int fr9 tfr9)) (hm1 : IntMulOk ct (1024 ^ Int.toNat 4))
    (h : ∀ t tk, Q (.int (2 * if ct * 1024 ^ Int.toNat 4 - fr9 < 0 then -(ct * 1024 ^ Int.toNat 4 - fr9) else ct * 1024 ^ Int.toNat 4 - fr9) t) { s with toks := tk }) :
    wpAny (model Challenge.rw_dn0231_01.row.prog w) ⟨none, dp, fr, gd, un⟩ (eval (valueOf (stm 8)) (envOfC (Str.ofString "law") lawScope L fa cd)) Q E s := by
  w_on
  w_top on
  revert X; k_fill; intro X
  dsimp only [valueOf, thenOf, stm, forBody, lawBody, lawScope, Challenge.pw_dn0231_01, List.getElem?_cons_zero, List.getElem?_cons_succ]
  w_strict (repeat' (first | ((with_reducible show Q (Value.int _ _) _); exact h _ _) | walk1 | (dsimp only; walk1) | fail "no step"))
theorem ev9 (w : World) {mean : ExcName → Option Value} {mg mb : Str → Option Value} {dp un : Nat} {fr : Option (List Env)} {gd : Option (List Code)} {h₀ : Heap} {L fa : Addr} {cd : Value} {s : Shared} {m : Str → Option Value} {Q : Bool → Shared → Prop} {E : Value → Shared → Prop} {oc : Obj}
    (X : (hd0231.heap_39 w.params).In h₀) (T : Top hd0231.view_39 (looseW hd0231.view_39 []) mean mg mb h₀)
    (F : Fr h₀ L s.heap m) (N : News h₀ L s.heap [(L + 1, oc)]) {gap : Int} {tgap : Tok} (hgap : m (Str.ofString "gap") = some (.int gap tgap)) {ct : Int} {tct : Tok} (hct : m (Str.ofString "count") = some (.int ct tct)) (hle : ¬ 1024 ^ Int.toNat 4 < gap) (heq : gap = 1024 ^ Int.toNat 4 → ct.fmod 2 = 0)
    (h : ∀ tk, Q false { s with toks := tk }) :
    wpAny (model Challenge.rw_dn0231_01.row.prog w) ⟨none, dp, fr, gd, un⟩ (PySem.isTrue (valueOf (stm 9)) (envOfC (Str.ofString "law") lawScope L fa cd) (eval (valueOf (stm 9)) (envOfC (Str.ofString "law") lawScope L fa cd))) Q E s := by
  w_on
  w_top on
  revert X; k_fill; intro X
  dsimp only [valueOf, thenOf, stm, forBody, lawBody, lawScope, Challenge.pw_dn0231_01, List.getElem?_cons_zero, List.getElem?_cons_succ]
  w_strict (repeat' (first | ((with_reducible show Q _ _); first | exact h _ | (exfalso; simp_all; done)) | walk1 | (dsimp only; walk1) | fail "no step"))
theorem ev10 (w : World) {mean : ExcName → Option Value} {mg mb : Str → Option Value} {dp un : Nat} {fr : Option (List Env)} {gd : Option (List Code)} {h₀ : Heap} {L fa : Addr} {cd : Value} {s : Shared} {m : Str → Option Value} {Q : Bool → Shared → Prop} {E : Value → Shared → Prop} {oc : Obj}
    (X : (hd0231.heap_39 w.params).In h₀) (T : Top hd0231.view_39 (looseW hd0231.view_39 []) mean mg mb h₀)
    (F : Fr h₀ L s.heap m) (N : News h₀ L s.heap [(L + 1, oc)]) {fg : Str} {tfg : Tok} (hfg : m (Str.ofString "figure") = some (.str fg tfg)) {tnm : Tok} (hnm : m (Str.ofString "name") = some (.str (Str.ofString "TiB") tnm)) {wy : Int} {twy : Tok} (hwy : m (Str.ofString "way") = some (.int wy twy)) {ct : Int} {tct : Tok} (hct : m (Str.ofString "count") = some (.int ct tct)) {sg : Bool} (hsg : m (Str.ofString "sign") = some (.bool sg)) (hc0 : 0 ≤ ct) (hc1 : ct < 10 ^ 30) (hfg : fg = (if wy < 0 then Str.ofString "-" else if sg = true then Str.ofString "+" else Str.ofString "") ++ Str.ofString (toString ct))
    (h : ∀ tk, Q false { s with toks := tk }) :
    wpAny (model Challenge.rw_dn0231_01.row.prog w) ⟨none, dp, fr, gd, un⟩ (PySem.isTrue (valueOf (stm 10)) (envOfC (Str.ofString "law") lawScope L fa cd) (eval (valueOf (stm 10)) (envOfC (Str.ofString "law") lawScope L fa cd))) Q E s := by
  w_on
  w_top on
  revert X; k_fill; intro X
  dsimp only [valueOf, thenOf, stm, forBody, lawBody, lawScope, Challenge.pw_dn0231_01, List.getElem?_cons_zero, List.getElem?_cons_succ]
  w_strict (repeat' (first | ((with_reducible show Q _ _); (first | exact h _ | (exfalso; (rename (bne _ _) = true => hb9); first | (rw [if_pos (by assumption)] at hfg; rw [hfg] at hb9; simp at hb9; done) | (rw [if_neg (by assumption), if_pos (by assumption)] at hfg; rw [hfg] at hb9; simp at hb9; done) | (rw [if_neg (by assumption), if_neg (by simp [*])] at hfg; rw [hfg] at hb9; simp at hb9; done)))) | walk1 | (dsimp only; walk1) | fail "no step"))
theorem ev11 (w : World) {mean : ExcName → Option Value} {mg mb : Str → Option Value} {dp un : Nat} {fr : Option (List Env)} {gd : Option (List Code)} {h₀ : Heap} {L fa : Addr} {cd : Value} {s : Shared} {m : Str → Option Value} {Q : Bool → Shared → Prop} {E : Value → Shared → Prop} {oc : Obj}
    (X : (hd0231.heap_39 w.params).In h₀) (T : Top hd0231.view_39 (looseW hd0231.view_39 []) mean mg mb h₀)
    (F : Fr h₀ L s.heap m) (N : News h₀ L s.heap [(L + 1, oc)]) {pa : Int} {tpa : Tok} (hpa : m (Str.ofString "parts") = some (.int pa tpa))
    (h : ∀ tk, Q (pa == 10) { s with toks := tk }) :
    wpAny (model Challenge.rw_dn0231_01.row.prog w) ⟨none, dp, fr, gd, un⟩ (PySem.isTrue (valueOf (stm 11)) (envOfC (Str.ofString "law") lawScope L fa cd) (eval (valueOf (stm 11)) (envOfC (Str.ofString "law") lawScope L fa cd))) Q E s := by
  w_on
  w_top on
  revert X; k_fill; intro X
  dsimp only [valueOf, thenOf, stm, forBody, lawBody, lawScope, Challenge.pw_dn0231_01, List.getElem?_cons_zero, List.getElem?_cons_succ]
  w_strict (repeat' (first | ((with_reducible show Q _ _); exact h _) | walk1 | (dsimp only; walk1) | fail "no step"))
end Mine
end

-- part EVB
section
open PySem PySem.W PyProof.Rows
set_option maxRecDepth 100000
set_option maxHeartbeats 2000000
namespace Mine
local macro_rules | `(tactic| walk_at "eval Name") => `(tactic| (k_here; k_dflt (refine' nameX_L ?F ?v ?_ ?a ?b; (case F => k_asm); (case a => rfl); (case b => rfl); (case v => with_reducible assumption); k_whole)))
local macro_rules | `(tactic| walk_at "binaryOp Mult int int") => `(tactic| (k_here; with_reducible refine PyProof.Rows.mul_int ?_ (by first | with_reducible assumption | exact IntMulOk.of_left (by decide))))
local macro_rules | `(tactic| walk_at "binaryOp Pow int int") => `(tactic| (k_here; (with_reducible refine pow_int_small ?kb1 ?kb2 ?kb3 ?_); (case kb1 => first | decide | with_reducible assumption); (case kb2 => first | decide | with_reducible assumption); (case kb3 => decide)))
local macro_rules | `(tactic| walk_at "call ref") => `(tactic| (k_here; (refine' fs_K _ ?fX ?fT ?fF ?fr ?fn ?fi ?_; (case fX => k_asm); (case fT => k_asm); (case fF => k_asm); (case fr => with_reducible assumption); (case fn => with_reducible assumption); (case fi => with_reducible assumption)); intro t9 h9 tk9 F9 k9))
local macro_rules | `(tactic| walk_at "call builtin:str.split") => `(tactic| (k_here; (refine' split_K ?sx ?sa ?sb ?sl ?_; (case sx => with_reducible assumption); (case sa => with_reducible assumption); (case sb => with_reducible assumption); (case sl => with_reducible assumption)); intro D9 t91 t92 h8 tk8 hD9 k8))
local macro_rules | `(tactic| walk_at "call type:int") => `(tactic| (k_here; (refine' int_K ?sx ?sa ?_; (case sx => with_reducible assumption); (case sa => with_reducible assumption)); intro t9 tk9))
local macro_rules | `(tactic| walk_at "eval ListComp") => `(tactic| (k_here; k_dflt (refine' comp_K _ ?cX ?cT ?cF ?cN ?cO ?_; (case cX => k_asm); (case cT => k_asm); (case cF => k_asm); (case cN => k_asm); (case cO => k_asm)); intro D9 h9 tk9 ys9 hD9 hs9 k9))
local macro_rules | `(tactic| walk_at "binaryOp Add str str") => `(tactic| (k_here; (refine PyProof.Rows.add_str ?_ (by with_reducible assumption)); intro t9 tk9))
local macro_rules | `(tactic| walk_at "subscriptTail Name Slice str ref") => `(tactic| (k_here; (refine' slice_K (s := ⟨_, _, _, _, _⟩) ?sF ?sl ?_; (case sF => k_asm); (case sl => with_reducible assumption)); intro h9 t9 tk9 F9 k9))
local macro_rules | `(tactic| walk_at "subscriptTail Name Name ref int") => `(tactic| (k_here; (refine' item_list ?il ?i0 ?i6 ?ix ?_; (case il => exact listKept (by with_reducible assumption) (by with_reducible assumption)); (case i0 => with_reducible assumption); (case i6 => with_reducible assumption); (case ix => with_reducible assumption))))
local macro_rules | `(tactic| walk_at "call builtin:len") => `(tactic| (k_here; (refine' len_K ?sx ?sa ?_; (case sx => with_reducible assumption); (case sa => with_reducible assumption)); intro t9 tk9))
theorem ev1 (w : World) {mean : ExcName → Option Value} {mg mb : Str → Option Value} {dp un : Nat} {fr : Option (List Env)} {gd : Option (List Code)} {h₀ : Heap} {L fa : Addr} {cd : Value} {s : Shared} {m : Str → Option Value} {Q : Value → Shared → Prop} {E : Value → Shared → Prop} {oc : Obj}
    (X : (hd0231.heap_39 w.params).In h₀) (T : Top hd0231.view_39 (looseW hd0231.view_39 []) mean mg mb h₀)
    (F : Fr h₀ L s.heap m) (N : News h₀ L s.heap [(L + 1, oc)]) {am : Int} {tam : Tok} (hoc : oc.data = .cell (some (.int am tam)))
    (h : ∀ t h' tk, Kept s.heap h' → Q (.int (highOf am : Nat) t) { s with heap := h', toks := tk }) :
    wpAny (model Challenge.rw_dn0231_01.row.prog w) ⟨none, dp, fr, gd, un⟩ (eval (valueOf (stm 1)) (envOfC (Str.ofString "law") lawScope L fa cd)) Q E s := by
  w_on
  w_top on
  revert X; k_fill; intro X
  dsimp only [valueOf, thenOf, stm, forBody, lawBody, lawScope, Challenge.pw_dn0231_01, List.getElem?_cons_zero, List.getElem?_cons_succ]
  w_strict (repeat' (first | ((with_reducible show Q (Value.int _ _) _); exact h _ _ _ (by assumption)) | walk1 | (dsimp only; walk1) | fail "no step"))
theorem ev6 (w : World) {mean : ExcName → Option Value} {mg mb : Str → Option Value} {dp un : Nat} {fr : Option (List Env)} {gd : Option (List Code)} {h₀ : Heap} {L fa : Addr} {cd : Value} {s : Shared} {m : Str → Option Value} {Q : Value → Shared → Prop} {E : Value → Shared → Prop} {oc : Obj}
    (X : (hd0231.heap_39 w.params).In h₀) (T : Top hd0231.view_39 (looseW hd0231.view_39 []) mean mg mb h₀)
    (F : Fr h₀ L s.heap m) (N : News h₀ L s.heap [(L + 1, oc)]) {wy : Int} {twy : Tok} (hwy : m (Str.ofString "way") = some (.int wy twy)) {fr9 : Int} {tfr9 : Tok} (hfr9 : m (Str.ofString "far") = some (.int fr9 tfr9)) {sg : Bool} (hsg : m (Str.ofString "sign") = some (.bool sg)) (hm1 : IntMulOk wy fr9) (hroom : dp + 1 < recursionLimit) (hn : (wy * fr9).natAbs < 2 ^ 1023) (hn2 : ¬ Float64.isInf (Float64.ofInt (wy * fr9)) = true) {a b : Str} (hab : fmt (wy * fr9) sg = a ++ Str.ofString " " ++ b) (ha : 32 ∉ a.cps.toList) (hb : 32 ∉ b.cps.toList) (hl : a.length + b.length ≤ 10000)
    (h : ∀ D t1 t2 h' tk, h'.IsList D #[.str a t1, .str b t2] → Kept s.heap h' → Q (.ref D) { s with heap := h', toks := tk }) :
    wpAny (model Challenge.rw_dn0231_01.row.prog w) ⟨none, dp, fr, gd, un⟩ (eval (valueOf (stm 6)) (envOfC (Str.ofString "law") lawScope L fa cd)) Q E s := by
  w_on
  w_top on
  revert X; k_fill; intro X
  dsimp only [valueOf, thenOf, stm, forBody, lawBody, lawScope, Challenge.pw_dn0231_01, List.getElem?_cons_zero, List.getElem?_cons_succ]
  w_strict (repeat' (first | ((with_reducible show Q (Value.ref _) _); exact h _ _ _ _ _ (by assumption) (Kept.trans (by assumption) (by assumption))) | walk1 | (dsimp only; walk1) | fail "no step"))
theorem ev7 (w : World) {mean : ExcName → Option Value} {mg mb : Str → Option Value} {dp un : Nat} {fr : Option (List Env)} {gd : Option (List Code)} {h₀ : Heap} {L fa : Addr} {cd : Value} {s : Shared} {m : Str → Option Value} {Q : Value → Shared → Prop} {E : Value → Shared → Prop} {oc : Obj}
    (X : (hd0231.heap_39 w.params).In h₀) (T : Top hd0231.view_39 (looseW hd0231.view_39 []) mean mg mb h₀)
    (F : Fr h₀ L s.heap m) (N : News h₀ L s.heap [(L + 1, oc)]) {fg : Str} {tfg : Tok} (hfg : m (Str.ofString "figure") = some (.str fg tfg)) {i : Int} (hi : PySem.intText? fg = some i) (hl : fg.length ≤ 640)
    (h : ∀ t tk, Q (.int (if i < 0 then -i else i) t) { s with toks := tk }) :
    wpAny (model Challenge.rw_dn0231_01.row.prog w) ⟨none, dp, fr, gd, un⟩ (eval (valueOf (stm 7)) (envOfC (Str.ofString "law") lawScope L fa cd)) Q E s := by
  w_on
  w_top on
  revert X; k_fill; intro X
  dsimp only [valueOf, thenOf, stm, forBody, lawBody, lawScope, Challenge.pw_dn0231_01, List.getElem?_cons_zero, List.getElem?_cons_succ]
  w_strict (repeat' (first | ((with_reducible show Q (Value.int _ _) _); exact h _ _) | walk1 | (dsimp only; walk1) | fail "no step"))
theorem ev12 (w : World) {mean : ExcName → Option Value} {mg mb : Str → Option Value} {dp un : Nat} {fr : Option (List Env)} {gd : Option (List Code)} {h₀ : Heap} {L fa : Addr} {cd : Value} {s : Shared} {m : Str → Option Value} {Q : Bool → Shared → Prop} {E : Value → Shared → Prop} {oc : Obj}
    (X : (hd0231.heap_39 w.params).In h₀) (T : Top hd0231.view_39 (looseW hd0231.view_39 []) mean mg mb h₀)
    (F : Fr h₀ L s.heap m) (N : News h₀ L s.heap [(L + 1, oc)]) {am : Int} {tam : Tok} (hoc : oc.data = .cell (some (.int am tam))) {wy : Int} {twy : Tok} (hwy : m (Str.ofString "way") = some (.int wy twy)) {sg : Bool} (hsg : m (Str.ofString "sign") = some (.bool sg)) {fg : Str} {tfg : Tok} (hfg : m (Str.ofString "figure") = some (.str fg tfg)) {hi : Int} {thi : Tok} (hhi : m (Str.ofString "high") = some (.int hi thi)) {ln : Addr} (hnames : m (Str.ofString "names") = some (.ref ln)) {items : Array Value} {uni : Str} {tuni : Tok} (hln : s.heap.IsList ln items) (h0 : 0 ≤ hi) (h63 : hi < 2 ^ 63) (huni : items[hi.toNat]? = some (.str uni tuni)) (hm1 : IntMulOk wy am) (hroom : dp + 1 < recursionLimit) (hn : (wy * am).natAbs < 2 ^ 1023) (hn2 : ¬ Float64.isInf (Float64.ofInt (wy * am)) = true) (hl1 : fg.length + (Str.ofString " ").length ≤ sizeLine) (hl2 : (fg ++ Str.ofString " ").length + uni.length ≤ sizeLine) (heq : fmt (wy * am) sg = fg ++ Str.ofString " " ++ uni)
    (h : ∀ h' tk, Kept s.heap h' → Q false { s with heap := h', toks := tk }) :
    wpAny (model Challenge.rw_dn0231_01.row.prog w) ⟨none, dp, fr, gd, un⟩ (PySem.isTrue (valueOf (stm 12)) (envOfC (Str.ofString "law") lawScope L fa cd) (eval (valueOf (stm 12)) (envOfC (Str.ofString "law") lawScope L fa cd))) Q E s := by
  w_on
  w_top on
  revert X; k_fill; intro X
  dsimp only [valueOf, thenOf, stm, forBody, lawBody, lawScope, Challenge.pw_dn0231_01, List.getElem?_cons_zero, List.getElem?_cons_succ]
  w_strict (repeat' (first | ((with_reducible show Q _ _); (have e9 : (fmt (wy * am) sg != fg ++ Str.ofString " " ++ uni) = false := by rw [heq]; simp); rw [e9]; exact h _ _ (by assumption)) | walk1 | (dsimp only; walk1) | fail "no step"))
theorem ev11b (w : World) {mean : ExcName → Option Value} {mg mb : Str → Option Value} {dp un : Nat} {fr : Option (List Env)} {gd : Option (List Code)} {h₀ : Heap} {L fa : Addr} {cd : Value} {s : Shared} {m : Str → Option Value} {Q : Value → Shared → Prop} {E : Value → Shared → Prop} {oc : Obj}
    (X : (hd0231.heap_39 w.params).In h₀) (T : Top hd0231.view_39 (looseW hd0231.view_39 []) mean mg mb h₀)
    (F : Fr h₀ L s.heap m) (N : News h₀ L s.heap [(L + 1, oc)]) {fg : Str} {tfg : Tok} (hfg : m (Str.ofString "figure") = some (.str fg tfg)) (hf1 : 1 ≤ fg.length) (hf2 : fg.length ≤ 640) (hl1 : (Txt.slice fg none (some (-1))).length + (Str.ofString ".").length ≤ sizeLine) (hl2 : (Txt.slice fg none (some (-1)) ++ Str.ofString ".").length + (Txt.item fg (-1)).length ≤ sizeLine)
    (h : ∀ t h' tk, Kept s.heap h' → Q (.str (Txt.slice fg none (some (-1)) ++ Str.ofString "." ++ Txt.item fg (-1)) t) { s with heap := h', toks := tk }) :
    wpAny (model Challenge.rw_dn0231_01.row.prog w) ⟨none, dp, fr, gd, un⟩ (eval (valueOf (thenOf (stm 11))) (envOfC (Str.ofString "law") lawScope L fa cd)) Q E s := by
  w_on
  w_top on
  revert X; k_fill; intro X
  dsimp only [valueOf, thenOf, stm, forBody, lawBody, lawScope, Challenge.pw_dn0231_01, List.getElem?_cons_zero, List.getElem?_cons_succ]
  w_strict (repeat' (first | ((with_reducible show Q (Value.str _ _) _); exact h _ _ _ (by assumption)) | walk1 | (dsimp only; walk1) | fail "no step"))
end Mine
end

-- part Xs
section
open PySem PySem.W PyProof.Rows
set_option maxRecDepth 100000
set_option maxHeartbeats 2000000
namespace Mine
def stmD (k : Nat) : Stmt := (stm k).getD (.Pass default)
abbrev lawEnv (L fa : Addr) (cd : Value) : Env := envOfC (Str.ofString "law") lawScope L fa cd
theorem body_is : forBody = [stmD 0, stmD 1, stmD 2, stmD 3, stmD 4, stmD 5, stmD 6, stmD 7, stmD 8, stmD 9, stmD 10, stmD 11, stmD 12] := rfl
section
variable {M : Model} {A : Around} {E : Value → Shared → Prop} {s : Shared} {Q : Flow → Shared → Prop} {L fa : Addr} {cd : Value}
theorem x0 (h : wpAny M A (eval (valueOf (stm 0)) (lawEnv L fa cd)) (fun v s₁ => wpAny M A (storeName (lawEnv L fa cd) (Str.ofString "amount") v) (fun _ => Q .next) E s₁) E s) : wpAny M A (exec (stmD 0) (lawEnv L fa cd)) Q E s := by
  dsimp only [stmD, valueOf, thenOf, stm, forBody, lawBody, Challenge.pw_dn0231_01, List.getElem?_cons_zero, List.getElem?_cons_succ, Option.getD] at h ⊢
  exact wpAny_Assign_Name h
theorem x1 (h : wpAny M A (eval (valueOf (stm 1)) (lawEnv L fa cd)) (fun v s₁ => wpAny M A (storeName (lawEnv L fa cd) (Str.ofString "high") v) (fun _ => Q .next) E s₁) E s) : wpAny M A (exec (stmD 1) (lawEnv L fa cd)) Q E s := by
  dsimp only [stmD, valueOf, thenOf, stm, forBody, lawBody, Challenge.pw_dn0231_01, List.getElem?_cons_zero, List.getElem?_cons_succ, Option.getD] at h ⊢
  exact wpAny_Assign_Name h
theorem x2 (h : wpAny M A (eval (valueOf (stm 2)) (lawEnv L fa cd)) (fun v s₁ => wpAny M A (storeName (lawEnv L fa cd) (Str.ofString "parts") v) (fun _ => Q .next) E s₁) E s) : wpAny M A (exec (stmD 2) (lawEnv L fa cd)) Q E s := by
  dsimp only [stmD, valueOf, thenOf, stm, forBody, lawBody, Challenge.pw_dn0231_01, List.getElem?_cons_zero, List.getElem?_cons_succ, Option.getD] at h ⊢
  exact wpAny_Assign_Name h
theorem x3 (h : wpAny M A (eval (valueOf (stm 3)) (lawEnv L fa cd)) (fun v s₁ => wpAny M A (storeName (lawEnv L fa cd) (Str.ofString "far") v) (fun _ => Q .next) E s₁) E s) : wpAny M A (exec (stmD 3) (lawEnv L fa cd)) Q E s := by
  dsimp only [stmD, valueOf, thenOf, stm, forBody, lawBody, Challenge.pw_dn0231_01, List.getElem?_cons_zero, List.getElem?_cons_succ, Option.getD] at h ⊢
  exact wpAny_Assign_Name h
theorem x4 (h : wpAny M A (eval (valueOf (stm 4)) (lawEnv L fa cd)) (fun v s₁ => wpAny M A (storeName (lawEnv L fa cd) (Str.ofString "way") v) (fun _ => Q .next) E s₁) E s) : wpAny M A (exec (stmD 4) (lawEnv L fa cd)) Q E s := by
  dsimp only [stmD, valueOf, thenOf, stm, forBody, lawBody, Challenge.pw_dn0231_01, List.getElem?_cons_zero, List.getElem?_cons_succ, Option.getD] at h ⊢
  exact wpAny_Assign_Name h
theorem x5 (h : wpAny M A (eval (valueOf (stm 5)) (lawEnv L fa cd)) (fun v s₁ => wpAny M A (storeName (lawEnv L fa cd) (Str.ofString "sign") v) (fun _ => Q .next) E s₁) E s) : wpAny M A (exec (stmD 5) (lawEnv L fa cd)) Q E s := by
  dsimp only [stmD, valueOf, thenOf, stm, forBody, lawBody, Challenge.pw_dn0231_01, List.getElem?_cons_zero, List.getElem?_cons_succ, Option.getD] at h ⊢
  exact wpAny_Assign_Name h
theorem x7 (h : wpAny M A (eval (valueOf (stm 7)) (lawEnv L fa cd)) (fun v s₁ => wpAny M A (storeName (lawEnv L fa cd) (Str.ofString "count") v) (fun _ => Q .next) E s₁) E s) : wpAny M A (exec (stmD 7) (lawEnv L fa cd)) Q E s := by
  dsimp only [stmD, valueOf, thenOf, stm, forBody, lawBody, Challenge.pw_dn0231_01, List.getElem?_cons_zero, List.getElem?_cons_succ, Option.getD] at h ⊢
  exact wpAny_Assign_Name h
theorem x8 (h : wpAny M A (eval (valueOf (stm 8)) (lawEnv L fa cd)) (fun v s₁ => wpAny M A (storeName (lawEnv L fa cd) (Str.ofString "gap") v) (fun _ => Q .next) E s₁) E s) : wpAny M A (exec (stmD 8) (lawEnv L fa cd)) Q E s := by
  dsimp only [stmD, valueOf, thenOf, stm, forBody, lawBody, Challenge.pw_dn0231_01, List.getElem?_cons_zero, List.getElem?_cons_succ, Option.getD] at h ⊢
  exact wpAny_Assign_Name h
theorem x9 (h : wpAny M A (PySem.isTrue (valueOf (stm 9)) (lawEnv L fa cd) (eval (valueOf (stm 9)) (lawEnv L fa cd))) (fun b s₂ => b = false ∧ Q .next s₂) E s) : wpAny M A (exec (stmD 9) (lawEnv L fa cd)) Q E s := by
  dsimp only [stmD, valueOf, thenOf, stm, forBody, lawBody, Challenge.pw_dn0231_01, List.getElem?_cons_zero, List.getElem?_cons_succ, Option.getD] at h ⊢
  refine wpAny_If (wpAny_mono h (fun b s₂ hb => ?_) fun _ _ e => e)
  rw [hb.1]
  exact wpAny_execs_nil hb.2
theorem x10 (h : wpAny M A (PySem.isTrue (valueOf (stm 10)) (lawEnv L fa cd) (eval (valueOf (stm 10)) (lawEnv L fa cd))) (fun b s₂ => b = false ∧ Q .next s₂) E s) : wpAny M A (exec (stmD 10) (lawEnv L fa cd)) Q E s := by
  dsimp only [stmD, valueOf, thenOf, stm, forBody, lawBody, Challenge.pw_dn0231_01, List.getElem?_cons_zero, List.getElem?_cons_succ, Option.getD] at h ⊢
  refine wpAny_If (wpAny_mono h (fun b s₂ hb => ?_) fun _ _ e => e)
  rw [hb.1]
  exact wpAny_execs_nil hb.2
theorem x12 (h : wpAny M A (PySem.isTrue (valueOf (stm 12)) (lawEnv L fa cd) (eval (valueOf (stm 12)) (lawEnv L fa cd))) (fun b s₂ => b = false ∧ Q .next s₂) E s) : wpAny M A (exec (stmD 12) (lawEnv L fa cd)) Q E s := by
  dsimp only [stmD, valueOf, thenOf, stm, forBody, lawBody, Challenge.pw_dn0231_01, List.getElem?_cons_zero, List.getElem?_cons_succ, Option.getD] at h ⊢
  refine wpAny_If (wpAny_mono h (fun b s₂ hb => ?_) fun _ _ e => e)
  rw [hb.1]
  exact wpAny_execs_nil hb.2
theorem x11 (h : wpAny M A (PySem.isTrue (valueOf (stm 11)) (lawEnv L fa cd) (eval (valueOf (stm 11)) (lawEnv L fa cd))) (fun b s₂ => if b then wpAny M A (eval (valueOf (thenOf (stm 11))) (lawEnv L fa cd)) (fun v s₁ => wpAny M A (storeName (lawEnv L fa cd) (Str.ofString "figure") v) (fun _ => Q .next) E s₁) E s₂ else Q .next s₂) E s) : wpAny M A (exec (stmD 11) (lawEnv L fa cd)) Q E s := by
  dsimp only [stmD, valueOf, thenOf, stm, forBody, lawBody, Challenge.pw_dn0231_01, List.getElem?_cons_zero, List.getElem?_cons_succ, Option.getD] at h ⊢
  refine wpAny_If (wpAny_mono h (fun b s₂ hb => ?_) fun _ _ e => e)
  cases b with
  | false => exact wpAny_execs_nil hb
  | true =>
    refine wpAny_execs_cons (wpAny_Assign_Name ?_)
    exact wpAny_mono hb (fun v s₁ h₁ => wpAny_mono h₁ (fun _ s₂ h₂ => wpAny_execs_nil h₂) fun _ _ e => e) fun _ _ e => e
end
end Mine
end

-- part Un
section
open PySem PySem.W PyProof.Rows
set_option maxRecDepth 100000
set_option maxHeartbeats 2000000
namespace Mine
section
variable {prog : Program} {w : World} {A : Around} {E : Value → Shared → Prop} {s : Shared}
theorem unpackItems_list2 {D : Addr} {a b : Value} {Q : List Value → Shared → Prop} (hh : A.handled = none) (hl : s.heap.IsList D #[a, b])
    (hQ : ∀ h', Kept s.heap h' → Q [a, b] { s with heap := h' }) : wpAny (model prog w) A (unpackItems (.ref D) 2 none) Q E s := by
  have hlt : D ≠ s.heap.objs.size := by obtain ⟨o, ho, _⟩ := hl; exact Nat.ne_of_lt (Heap.lt_size ho)
  unfold unpackItems
  refine wpAny_bind ?_
  unfold notIterableAtAll
  refine wpAny_bind (wpAny_specialOf hl.typeIs slot_list_iter.lookup ?_)
  refine wpAny_pure ?_
  simp only [Bool.false_eq_true, if_false]
  refine wpAny_bind (wpAny_holding (wpAny_pyIter_list hl ?_))
  refine wpAny_bind (wpAny_holding ?_)
  show wpAny _ _ (pyNext (.ref s.heap.objs.size) >>= _) _ _ _
  have hl0 : (s.heap.push { cls := .type "list_iterator", data := .fields #[.ref D, .int 0 0] }).IsList D #[a, b] := hl.at fun o e => Heap.get?_push_of_some _ e
  refine wpAny_bind (wpAny_pyNext_list_item (i := 0) ⟨_, Heap.get?_push_size _ rfl, rfl, rfl⟩ hl0 (x := a) rfl fun h₁ hit₁ hs₁ => ?_)
  refine wpAny_bind (wpAny_holding ?_)
  show wpAny _ _ (pyNext (.ref s.heap.objs.size) >>= _) _ _ _
  have hl1 : h₁.IsList D #[a, b] := hl0.extBut hs₁.extBut hlt
  refine wpAny_bind (wpAny_pyNext_list_item hit₁ hl1 (x := b) rfl fun h₂ hit₂ hs₂ => ?_)
  refine wpAny_bind (wpAny_holding ?_)
  show wpAny _ _ (pure []) _ _ _
  refine wpAny_pure (wpAny_pure (wpAny_pure ?_))
  have hl2 : h₂.IsList D #[a, b] := hl1.extBut hs₂.extBut hlt
  rw [if_neg (by simp)]
  refine wpAny_bind (wpAny_holding (wpAny_pyNext_list_end hh hit₂ hl2 rfl fun h₃ he₃ => ?_))
  simp only [Option.isSome_none, Bool.false_eq_true, if_false]
  refine wpAny_pure (hQ h₃ fun c o e => he₃ c o (Nat.ne_of_lt (Heap.lt_size e)) (hs₂.extBut c o (Nat.ne_of_lt (Heap.lt_size e)) (hs₁.extBut c o (Nat.ne_of_lt (Heap.lt_size e)) (Heap.get?_push_of_some _ e))))
end
end Mine
end

-- part Tn0
section
open PySem PySem.W PyProof.Rows
set_option maxRecDepth 100000
set_option maxHeartbeats 2000000
namespace Mine
structure TS (h₀ : Heap) (L : Addr) (h h' : Heap) (m : Str → Option Value) (cv : Option Value) : Prop where
  fr : Fr h₀ L h' m
  cell : ∃ oc, h'.get? (L + 1) = some oc ∧ oc.data = .cell cv
  kp : ∀ b o, b ≠ L → b ≠ L + 1 → h.get? b = some o → h'.get? b = some o
  new : h₀.get? (L + 1) = none
section
variable {h₀ h h' h'' : Heap} {L fa : Addr} {cd : Value} {m : Str → Option Value} {cv : Option Value}
theorem TS.news (S : TS h₀ L h h' m cv) : ∃ oc, News h₀ L h' [(L + 1, oc)] ∧ oc.data = .cell cv := by
  obtain ⟨oc, h1, h2⟩ := S.cell
  refine ⟨oc, fun p hp => ?_, h2⟩
  rw [List.mem_singleton.mp hp]
  exact ⟨h1, Nat.succ_ne_self L, S.new⟩
theorem TS.grow (S : TS h₀ L h h' m cv) (k : Kept h' h'') : TS h₀ L h h'' m cv where
  fr := ⟨S.fr.ns.keeps k, fun b o e => k b o (S.fr.keep b o e), S.fr.above⟩
  cell := let ⟨oc, h1, h2⟩ := S.cell; ⟨oc, k _ _ h1, h2⟩
  kp := fun b o b1 b2 e => k b o (S.kp b o b1 b2 e)
  new := S.new
variable {M : Model} {A : Around} {E : Value → Shared → Prop} {s : Shared}
theorem TS.store {n : Str} {v : Value} {Q : Unit → Shared → Prop} (S : TS h₀ L h s.heap m cv) (hl : (lawEnv L fa cd).kindOf n = some .local)
    (hQ : ∀ h' tk, TS h₀ L h h' (fun q => if q = n then some v else m q) cv → Q () { s with heap := h', toks := tk }) : wpAny M A (storeName (lawEnv L fa cd) n v) Q E s := by
  refine wpAny_storeName_local hl S.fr.ns (fun h' hn hs => hQ h' _ ⟨S.fr.set hn hs, ?_, ?_, S.new⟩) rfl
  · obtain ⟨oc, h1, h2⟩ := S.cell
    exact ⟨oc, hs.extBut _ _ (Nat.succ_ne_self L) h1, h2⟩
  · exact fun b o b1 b2 e => hs.extBut b o b1 (S.kp b o b1 b2 e)
theorem TS.storeC {v : Value} {Q : Unit → Shared → Prop} (S : TS h₀ L h s.heap m cv)
    (hQ : ∀ h', TS h₀ L h h' m (some v) → Q () { s with heap := h' }) : wpAny M A (storeName (lawEnv L fa cd) (Str.ofString "amount") v) Q E s := by
  obtain ⟨oc, h1, h2⟩ := S.cell
  refine wpAny_storeName_cell (c := L + 1) rfl rfl rfl ⟨oc, h1, h2⟩ fun h' hv hs => hQ h' ⟨⟨S.fr.ns.sameBut hs (Nat.ne_of_lt (Nat.lt_succ_self L)), fun b o e => ?_, S.fr.above⟩, ?_, ?_, S.new⟩
  · exact hs.extBut b o (fun q => by rw [q, S.new] at e; cases e) (S.fr.keep b o e)
  · obtain ⟨o', ho', hd'⟩ := hv
    exact ⟨o', ho', hd'⟩
  · exact fun b o b1 b2 e => hs.extBut b o b2 (S.kp b o b1 b2 e)
end
theorem x6 {prog : Program} {w : World} {A : Around} {E : Value → Shared → Prop} {s : Shared} {Q : Flow → Shared → Prop} {L fa : Addr} {cd : Value} {h₀ h : Heap} {m : Str → Option Value} {cv : Option Value} (hh : A.handled = none) (S : TS h₀ L h s.heap m cv) {a b : Str}
    (he : ∀ {Q' : Value → Shared → Prop}, (∀ D t1 t2 h' tk, h'.IsList D #[.str a t1, .str b t2] → Kept s.heap h' → Q' (.ref D) { s with heap := h', toks := tk }) → wpAny (model prog w) A (eval (valueOf (stm 6)) (lawEnv L fa cd)) Q' E s)
    (hQ : ∀ h' t1 t2 tk, TS h₀ L h h' (fun q => if q = Str.ofString "name" then some (.str b t2) else if q = Str.ofString "figure" then some (.str a t1) else m q) cv → Q .next { s with heap := h', toks := tk }) :
    wpAny (model prog w) A (exec (stmD 6) (lawEnv L fa cd)) Q E s := by
  have he' := fun Q' => @he Q'
  dsimp only [stmD, valueOf, thenOf, stm, forBody, lawBody, Challenge.pw_dn0231_01, List.getElem?_cons_zero, List.getElem?_cons_succ, Option.getD] at he' ⊢
  refine PyProof.Rows.Assign_Tuple (he' _ fun D t1 t2 h' tk hD k => ?_) ?_ ?_
  · rw [arm_assign_Tuple]
    refine wpAny_bind (wpAny_standAt ?_)
    unfold unpack
    refine wpAny_bind (wpAny_holding (unpackItems_list2 hh hD fun h₂ k₂ => ?_))
    show wpAny _ A (do holding [.str b t2] (assign (.Name (Str.ofString "figure") _) (lawEnv L fa cd) (.str a t1)); do holding [] (assign (.Name (Str.ofString "name") _) (lawEnv L fa cd) (.str b t2)); pure ()) _ _ _
    refine wpAny_bind (wpAny_holding (wpAny_assign_Name (TS.store (TS.grow (TS.grow S k) k₂) rfl fun h₃ tk₃ S₃ => ?_)))
    refine wpAny_bind (wpAny_holding (wpAny_assign_Name (TS.store S₃ rfl fun h₄ tk₄ S₄ => wpAny_pure ?_)))
    exact hQ h₄ t1 t2 tk₄ S₄
  · rfl
  · rfl
end Mine
end

-- part Br
section
open PySem PySem.W PyProof.Rows PySem.Float64
set_option maxRecDepth 100000
set_option maxHeartbeats 1000000
namespace Mine
theorem filterMap_take {l : List Nat} : ∀ (k : Nat), k ≤ l.length → (List.range k).filterMap (fun i => l[i]?) = l.take k
  | 0, _ => by simp
  | k + 1, h => by
    rw [List.range_succ, List.filterMap_append, filterMap_take k (by omega)]
    have : l[k]? = some l[k] := List.getElem?_eq_getElem (by omega)
    simp only [List.filterMap_cons, List.filterMap_nil, this]
    rw [List.take_succ, this]
    rfl
theorem slice_init {x : Str} (h : 1 ≤ x.length) : (Txt.slice x none (some (-1))).cps.toList = x.cps.toList.take (x.cps.toList.length - 1) := by
  have hl : x.cps.toList.length = x.length := Array.length_toList
  have hidx : Builtin.Str.strSliceIndices none (some (-1)) 1 x.length = List.range (x.length - 1) := by
    unfold Builtin.Str.strSliceIndices sliceRange
    simp only [show (1 : Int) > 0 from by decide, if_true, show (-1 : Int) < 0 from by decide]
    have e1 : max 0 (min (-1 + (x.length : Int)) (x.length : Int)) = (x.length : Int) - 1 := by omega
    rw [e1]
    by_cases h1 : x.length = 1
    · rw [h1]; simp
    · rw [if_pos (by omega)]
      have e2 : (((x.length : Int) - 1 - 0 + 1 - 1) / 1).toNat = x.length - 1 := by omega
      rw [e2]
      apply List.ext_getElem
      · simp
      · intro i h1 h2
        simp
  unfold Txt.slice
  rw [hidx, List.length_range, if_neg (by simp; omega)]
  show (List.filterMap (fun i : Nat => x.cps[i]?) (List.range (x.length - 1))) = _
  have e3 : (fun i : Nat => x.cps[i]?) = fun i : Nat => x.cps.toList[i]? := by funext i; simp
  rw [e3, filterMap_take _ (by omega), hl]
theorem item_last {x : Str} (h : 1 ≤ x.length) : (Txt.item x (-1)).cps.toList = x.cps.toList.drop (x.cps.toList.length - 1) := by
  have hl : x.cps.toList.length = x.length := Array.length_toList
  have hs : seqIndex? (-1) x.length = some (x.length - 1) := by
    unfold seqIndex?
    simp only [show (-1 : Int) < 0 from by decide, if_true]
    have hp : 0 ≤ -1 + (x.length : Int) ∧ -1 + (x.length : Int) < x.length := by omega
    simp
    omega
  unfold Txt.item Txt.charAt
  rw [hs]
  have hlt : x.length - 1 < x.cps.toList.length := by omega
  have e : x.cps[x.length - 1]? = some x.cps.toList[x.length - 1] := by
    have := List.getElem?_eq_getElem hlt
    rw [← this]; simp
  simp only [Option.bind_some, e, Option.getD_some]
  rw [hl, List.drop_eq_getElem_cons hlt]
  have : x.cps.toList.drop (x.length - 1 + 1) = [] := List.drop_eq_nil_of_le (by omega)
  rw [this]
theorem dotted (neg sg : Bool) (C : Nat) : Txt.slice (fig neg sg C) none (some (-1)) ++ Str.ofString "." ++ Txt.item (fig neg sg C) (-1) = figD neg sg C := by
  have hne : 1 ≤ (dg C).length := List.length_pos_iff.mpr (dg_ne C)
  have hlen : (fig neg sg C).cps.toList.length = (mark neg sg).length + (dg C).length := by rw [fig_cps, List.length_append]
  have hl : (fig neg sg C).cps.toList.length = (fig neg sg C).length := Array.length_toList
  apply ext_l
  rw [app_cps, app_cps, slice_init (by omega), item_last (by omega)]
  have ed : (Str.ofString ".").cps.toList = [46] := by decide +kernel
  rw [ed, hlen, fig_cps]
  show _ = mark neg sg ++ ((dg C).take ((dg C).length - 1) ++ 46 :: (dg C).drop ((dg C).length - 1))
  have e1 : (mark neg sg).length + (dg C).length - 1 = (mark neg sg).length + ((dg C).length - 1) := by omega
  rw [e1, List.take_append, List.drop_append]
  have e2 : (mark neg sg).length + ((dg C).length - 1) - (mark neg sg).length = (dg C).length - 1 := by omega
  rw [e2, List.take_of_length_le (by omega), List.drop_eq_nil_of_le (as := mark neg sg) (by omega)]
  simp
end Mine
end

-- part Br2
section
open PySem PySem.W PyProof.Rows PySem.Float64
set_option maxRecDepth 100000
set_option maxHeartbeats 1000000
namespace Mine
def amt (x y : Int) : Int := (100 + Int.fmod (if x < 0 then -x else x) (2 ^ Int.toNat 50 - 100)) * 2 ^ (y.fmod 45).toNat
def amN (x y : Int) : Nat := (100 + Int.fmod (if x < 0 then -x else x) (2 ^ Int.toNat 50 - 100)).toNat * 2 ^ (y.fmod 45).toNat
section
variable {x y : Int}
theorem r_lo : 100 ≤ 100 + Int.fmod (if x < 0 then -x else x) (2 ^ Int.toNat 50 - 100) := by
  have := Int.fmod_nonneg_of_pos (if x < 0 then -x else x) (b := 2 ^ Int.toNat 50 - 100) (by decide)
  omega
theorem r_hi : 100 + Int.fmod (if x < 0 then -x else x) (2 ^ Int.toNat 50 - 100) < 2 ^ 50 := by
  have h := Int.fmod_lt_of_pos (if x < 0 then -x else x) (b := 2 ^ Int.toNat 50 - 100) (by decide)
  have e : (2 : Int) ^ Int.toNat 50 - 100 = 2 ^ 50 - 100 := by decide
  rw [e] at h ⊢
  omega
theorem e_lo : 0 ≤ y.fmod 45 := Int.fmod_nonneg_of_pos y (by decide)
theorem e_hi : y.fmod 45 < 45 := Int.fmod_lt_of_pos y (by decide)
theorem amt_is : amt x y = (amN x y : Int) := by
  unfold amt amN
  have := r_lo (x := x)
  rw [Int.natCast_mul, Int.toNat_of_nonneg (by omega), Int.natCast_pow]
  rfl
theorem am_mul : IntMulOk (100 + Int.fmod (if x < 0 then -x else x) (2 ^ Int.toNat 50 - 100)) (2 ^ (y.fmod 45).toNat) := by
  have h1 := r_lo (x := x)
  have h2 := r_hi (x := x)
  exact IntMulOk.of_left (intBits_le_64 (by omega) (by omega))
theorem cast_pow (k : Nat) : (1024 : Int) ^ k = ((1024 ^ k : Nat) : Int) := by rw [Int.natCast_pow]; rfl
theorem test_is {A : Nat} (k : Nat) : decide (10 * 1024 ^ ((k : Int)).toNat ≤ (A : Int)) = decide (10 * 1024 ^ k ≤ A) := by
  apply decide_eq_decide.mpr
  rw [Int.toNat_natCast, cast_pow]
  omega
theorem high_is (A : Nat) : highOf (A : Int) = (if 10 * 1024 ^ 1 ≤ A then 1 else 0) + (if 10 * 1024 ^ 2 ≤ A then 1 else 0) + (if 10 * 1024 ^ 3 ≤ A then 1 else 0) + (if 10 * 1024 ^ 4 ≤ A then 1 else 0) := by
  unfold highOf
  have h1 := test_is (A := A) 1
  have h2 := test_is (A := A) 2
  have h3 := test_is (A := A) 3
  have h4 := test_is (A := A) 4
  simp only [List.countP_cons, List.countP_nil]
  have c1 : ((1 : Nat) : Int) = 1 := rfl
  have c2 : ((2 : Nat) : Int) = 2 := rfl
  have c3 : ((3 : Nat) : Int) = 3 := rfl
  have c4 : ((4 : Nat) : Int) = 4 := rfl
  rw [c1] at h1; rw [c2] at h2; rw [c3] at h3; rw [c4] at h4
  rw [h1, h2, h3, h4]
  simp only [decide_eq_true_eq]
  omega
theorem sized (x y : Int) : Sized (amN x y) (highOf (amt x y)) := by
  have h1 := r_lo (x := x)
  have h2 := r_hi (x := x)
  have e0 := e_lo (y := y)
  have e1 := e_hi (y := y)
  have hlow : 100 ≤ amN x y := by
    unfold amN
    have : 1 ≤ 2 ^ (y.fmod 45).toNat := Nat.one_le_two_pow
    calc 100 ≤ (100 + Int.fmod (if x < 0 then -x else x) (2 ^ Int.toNat 50 - 100)).toNat * 1 := by omega
      _ ≤ _ := Nat.mul_le_mul_left _ this
  rw [amt_is]
  have hh := high_is (amN x y)
  refine ⟨⟨_, _, rfl, by omega, by omega⟩, hlow, highOf_le _, ?_, ?_⟩
  · rw [hh]
    generalize amN x y = A at *
    have p2 : (10 : Nat) * 1024 ^ 1 = 10240 := by decide
    have p3 : (10 : Nat) * 1024 ^ 2 = 10485760 := by decide
    have p4 : (10 : Nat) * 1024 ^ 3 = 10737418240 := by decide
    have p5 : (10 : Nat) * 1024 ^ 4 = 10995116277760 := by decide
    rw [p2, p3, p4, p5]
    by_cases a1 : 10240 ≤ A <;> by_cases a2 : 10485760 ≤ A <;> by_cases a3 : 10737418240 ≤ A <;> by_cases a4 : 10995116277760 ≤ A <;> simp [a1, a2, a3, a4] <;> omega
  · rw [hh]
    generalize amN x y = A at *
    have p2 : (10 : Nat) * 1024 ^ 1 = 10240 := by decide
    have p3 : (10 : Nat) * 1024 ^ 2 = 10485760 := by decide
    have p4 : (10 : Nat) * 1024 ^ 3 = 10737418240 := by decide
    have p5 : (10 : Nat) * 1024 ^ 4 = 10995116277760 := by decide
    rw [p2, p3, p4, p5]
    by_cases a1 : 10240 ≤ A <;> by_cases a2 : 10485760 ≤ A <;> by_cases a3 : 10737418240 ≤ A <;> by_cases a4 : 10995116277760 ≤ A <;> simp [a1, a2, a3, a4] <;> omega
end
section
variable {A H : Nat}
theorem parts_is : (if 0 < ((H : Nat) : Int) ∧ (A : Int) < 100 * 1024 ^ ((H : Nat) : Int).toNat then (10 : Int) else 1) = (paN A H : Int) := by
  unfold paN
  rw [Int.toNat_natCast, cast_pow]
  by_cases h : 0 < H ∧ A < 100 * 1024 ^ H
  · rw [if_pos h, if_pos ⟨by omega, by omega⟩]; rfl
  · rw [if_neg h, if_neg (by omega)]; rfl
theorem pa_le : paN A H ≤ 10 := by unfold paN; split <;> omega
theorem far_is (hH : H ≤ 4) : (A : Int) * (paN A H : Int) * 1024 ^ (4 - ((H : Nat) : Int)).toNat = (faN A H : Int) := by
  unfold faN
  have e : (4 - ((H : Nat) : Int)).toNat = 4 - H := by omega
  rw [e, cast_pow, Int.natCast_mul, Int.natCast_mul]
theorem far_mul1 : IntMulOk (A : Int) (paN A H : Int) := by
  have := pa_le (A := A) (H := H)
  exact IntMulOk.of_right (intBits_le_64 (by omega) (by omega))
theorem far_mul2 (hH : H ≤ 4) {q : Int} : IntMulOk q (1024 ^ (4 - ((H : Nat) : Int)).toNat) := by
  have e : (4 - ((H : Nat) : Int)).toNat = 4 - H := by omega
  rw [e, cast_pow]
  have : 1024 ^ (4 - H) ≤ 1024 ^ 4 := Nat.pow_le_pow_right (by decide) (by omega)
  have p5 : (1024 : Nat) ^ 4 = 1099511627776 := by decide
  rw [p5] at this
  generalize (1024 : Nat) ^ (4 - H) = P at *
  exact IntMulOk.of_right (intBits_le_64 (by omega) (by omega))
theorem A_lt (S : Sized A H) : A < 2 ^ 94 := by
  obtain ⟨a, e, rfl, ha, he⟩ := S.rep
  calc a * 2 ^ e ≤ a * 2 ^ 44 := Nat.mul_le_mul_left _ (Nat.pow_le_pow_right (by decide) he)
    _ < 2 ^ 50 * 2 ^ 44 := Nat.mul_lt_mul_of_pos_right ha (by decide)
    _ = 2 ^ 94 := by decide
theorem fa_le (S : Sized A H) : faN A H ≤ A * 10 * 1024 ^ 4 := by
  unfold faN
  exact Nat.mul_le_mul (Nat.mul_le_mul_left _ pa_le) (Nat.pow_le_pow_right (by decide) (by omega))
theorem ct_lt (S : Sized A H) : ctN A H < 10 ^ 30 := by
  have h1 := fa_le S
  have h2 := A_lt S
  have hU : 0 < (1024 : Nat) ^ 4 := by decide
  have h3 := (half_spec (faN A H) (1024 ^ 4) hU).1
  have hh : (2 : Nat) ^ 94 * 10 + 1 < 10 ^ 30 := by decide
  have h4 : A * 10 + 1 < 10 ^ 30 := by omega
  refine Nat.lt_of_le_of_lt ?_ h4
  unfold ctN
  generalize halfEven (faN A H) (1024 ^ 4) = C at *
  generalize (1024 : Nat) ^ 4 = U at *
  generalize faN A H = f at *
  generalize A * 10 = B at *
  apply Nat.le_of_not_lt
  intro hC
  have h5 : (B + 2) * U ≤ C * U := Nat.mul_le_mul_right _ hC
  have h6 : (B + 2) * U = B * U + 2 * U := Nat.add_mul ..
  omega
theorem way_abs {x : Int} {N : Nat} : ((if x < 0 then (-1 : Int) else 1) * (N : Int)).natAbs = N := by
  rw [Int.natAbs_mul]; split <;> simp
theorem way_neg {x : Int} {N : Nat} (hN : 0 < N) : decide ((if x < 0 then (-1 : Int) else 1) * (N : Int) < 0) = decide (x < 0) := by
  apply decide_eq_decide.mpr
  split
  · rename_i h; constructor
    · intro _; exact h
    · intro _; omega
  · rename_i h; constructor
    · intro q; omega
    · intro q; exact absurd q h
theorem way_mul {x : Int} {q : Int} : IntMulOk (if x < 0 then (-1 : Int) else 1) q := by
  split
  · exact IntMulOk.of_left (by decide)
  · exact IntMulOk.of_left (by decide)
theorem notInf {n : Int} {a b : Nat} (hn : n.natAbs = a * 2 ^ b) (ha : a < 2 ^ 53) (hb : b ≤ 200) : ¬ Float64.isInf (Float64.ofInt n) = true := by
  obtain ⟨m, e, hd, _⟩ := pk_dec (pk_int hn ha hb)
  unfold Float64.isInf
  rw [hd]
  simp
theorem small1023 {n : Int} {a b : Nat} (hn : n.natAbs = a * 2 ^ b) (ha : a < 2 ^ 53) (hb : b ≤ 200) : n.natAbs < 2 ^ 1023 := by
  rw [hn]
  calc a * 2 ^ b ≤ 2 ^ 53 * 2 ^ 200 := Nat.mul_le_mul (Nat.le_of_lt ha) (Nat.pow_le_pow_right (by decide) hb)
    _ < 2 ^ 1023 := by decide +kernel
theorem gap_ok (S : Sized A H) : ¬ ((1024 : Int) ^ Int.toNat 4 < 2 * (if (ctN A H : Int) * 1024 ^ Int.toNat 4 - (faN A H : Int) < 0 then -((ctN A H : Int) * 1024 ^ Int.toNat 4 - (faN A H : Int)) else (ctN A H : Int) * 1024 ^ Int.toNat 4 - (faN A H : Int))) ∧
    (2 * (if (ctN A H : Int) * 1024 ^ Int.toNat 4 - (faN A H : Int) < 0 then -((ctN A H : Int) * 1024 ^ Int.toNat 4 - (faN A H : Int)) else (ctN A H : Int) * 1024 ^ Int.toNat 4 - (faN A H : Int)) = (1024 : Int) ^ Int.toNat 4 → (ctN A H : Int).fmod 2 = 0) := by
  have e4 : Int.toNat 4 = 4 := rfl
  rw [e4, cast_pow]
  have hU : 0 < (1024 : Nat) ^ 4 := by decide
  have hs := half_spec (faN A H) (1024 ^ 4) hU
  have hc : ctN A H = halfEven (faN A H) (1024 ^ 4) := rfl
  rw [← hc] at hs
  generalize (1024 : Nat) ^ 4 = U at *
  generalize ctN A H = C at *
  generalize faN A H = f at *
  obtain ⟨h1, h2, h3⟩ := hs
  have hcast : (C : Int) * (U : Int) = ((C * U : Nat) : Int) := (Int.natCast_mul ..).symm
  rw [hcast]
  generalize C * U = P at *
  have hf : (C : Int).fmod 2 = ((C % 2 : Nat) : Int) := by
    rw [Int.fmod_eq_emod_of_nonneg _ (by decide)]; omega
  rw [hf]
  constructor
  · split <;> omega
  · intro h
    have : C % 2 = 0 := by
      apply h3
      split at h <;> omega
    omega
end
end Mine
end

-- part Tn
section
open PySem PySem.W PyProof.Rows PySem.Float64
set_option maxRecDepth 100000
set_option maxHeartbeats 2000000
namespace Mine
theorem unit_len {H : Nat} (h : H ≤ 4) : (unitOf H).length ≤ 3 := by
  match H, h with
  | 0, _ => decide +kernel
  | 1, _ => decide +kernel
  | 2, _ => decide +kernel
  | 3, _ => decide +kernel
  | 4, _ => decide +kernel
theorem fig_pos (neg sg : Bool) (C : Nat) : 1 ≤ (fig neg sg C).length := by
  have hne : 1 ≤ (dg C).length := List.length_pos_iff.mpr (dg_ne C)
  show 1 ≤ (mark neg sg ++ dg C).toArray.size
  rw [List.size_toArray, List.length_append]
  omega
theorem figD_len (neg sg : Bool) (C : Nat) : (figD neg sg C).length ≤ (dg C).length + 2 := by
  show (mark neg sg ++ ((dg C).take ((dg C).length - 1) ++ 46 :: (dg C).drop ((dg C).length - 1))).toArray.size ≤ _
  rw [List.size_toArray, List.length_append, List.length_append, List.length_cons, List.length_take, List.length_drop]
  rcases mark_cases neg sg with ⟨e, _⟩ | ⟨e, _⟩ | ⟨e, _⟩ <;> rw [e] <;> simp <;> omega
theorem dot_sizes {x : Str} (hx : x.length ≤ 640) : (Txt.slice x none (some (-1))).length + (Str.ofString ".").length ≤ sizeLine ∧ (Txt.slice x none (some (-1)) ++ Str.ofString ".").length + (Txt.item x (-1)).length ≤ sizeLine := by
  have h1 := Txt.slice_le x none (some (-1))
  have h2 : (Str.ofString ".").length = 1 := by decide +kernel
  have h3 : (Txt.item x (-1)).length = 1 := rfl
  rw [Str.length_append, sizeLine_eq]
  omega
theorem turn (w : World) {mean : ExcName → Option Value} {mg mb : Str → Option Value} {dp un : Nat} {fr : Option (List Env)} {gd : Option (List Code)} {h₀ : Heap} {L fa : Addr} {cd : Value} {s : Shared} {h : Heap} {tk : Nat}
    (X : (hd0231.heap_39 w.params).In h₀) (T : Top hd0231.view_39 (looseW hd0231.view_39 []) mean mg mb h₀) (hroom : dp + 1 < recursionLimit)
    {i : Nat} {x y : Int} {ti tx ty : Tok} {m₁ : Str → Option Value} {ln : Addr} {items : Array Value} (hJ : m₁ (Str.ofString "names") = some (.ref ln))
    (F : Fr h₀ L h (fun q => if q = Str.ofString "y" then some (.int y ty) else if q = Str.ofString "x" then some (.int x tx) else if q = Str.ofString "place" then some (.int i ti) else m₁ q))
    (hc : ∃ v, h.IsCell (L + 1) v) (hnew : h₀.get? (L + 1) = none) (hln : h.IsList ln items) (hlnL : ln ≠ L) (hlnc : ln ≠ L + 1) (hit : ∀ k, k ≤ 4 → ∃ t, items[k]? = some (.str (unitOf k) t)) :
    wpAny (model Challenge.rw_dn0231_01.row.prog w) ⟨none, dp, fr, gd, un⟩ (execs forBody (lawEnv L fa cd)) (TurnEnd h₀ L (L + 1) (fun m => m (Str.ofString "names") = some (.ref ln)) { s with heap := h, toks := tk }) (fun _ _ => False) { s with heap := h, toks := tk } := by
  rw [body_is]
  obtain ⟨cv, oc0, hoc0, hdc0⟩ := hc
  have S0 : TS h₀ L h h _ cv := ⟨F, ⟨oc0, hoc0, hdc0⟩, fun _ _ _ _ e => e, hnew⟩
  have SZ := sized x y
  have hami := amt_is (x := x) (y := y)
  -- amount
  refine wpAny_execs_cons (x0 ?_)
  obtain ⟨oc, N, hd⟩ := S0.news
  refine ev0 w X T S0.fr N (x := x) (y := y) rfl rfl e_lo (by have := e_hi (y := y); omega) am_mul fun t1 tk1 => ?_
  try dsimp only
  refine TS.storeC S0 fun h1 S1 => ?_
  try dsimp only
  change TS h₀ L h h1 _ (some (.int (amt x y) t1)) at S1
  rw [hami] at S1 SZ
  clear N hd oc hami
  generalize amN x y = A at *
  -- high
  refine wpAny_execs_cons (x1 ?_)
  obtain ⟨oc, N, hd⟩ := S1.news
  refine ev1 w X T S1.fr N hd fun t2 h2 tk2 k2 => ?_
  try dsimp only
  have hHle := SZ.top
  generalize highOf (A : Int) = H at *
  refine TS.store (S1.grow k2) rfl fun h3 tk3 S3 => ?_
  try dsimp only
  clear N hd oc
  -- parts
  refine wpAny_execs_cons (x2 ?_)
  obtain ⟨oc, N, hd⟩ := S3.news
  refine ev2 w X T S3.fr N hd (hi := ((H : Nat) : Int)) rfl (by omega) (by omega) fun t4 tk4 => ?_
  try dsimp only
  rw [parts_is]
  refine TS.store S3 rfl fun h5 tk5 S5 => ?_
  try dsimp only
  clear N hd oc
  -- far
  refine wpAny_execs_cons (x3 ?_)
  obtain ⟨oc, N, hd⟩ := S5.news
  refine ev3 w X T S5.fr N hd (hi := ((H : Nat) : Int)) (pa := ((paN A H : Nat) : Int)) rfl rfl (by omega) (by omega) far_mul1 (far_mul2 hHle) fun t6 tk6 => ?_
  try dsimp only
  rw [far_is hHle]
  refine TS.store S5 rfl fun h7 tk7 S7 => ?_
  try dsimp only
  clear N hd oc
  -- way
  refine wpAny_execs_cons (x4 ?_)
  obtain ⟨oc, N, hd⟩ := S7.news
  refine ev4 w X T S7.fr N (x := x) rfl fun t8 tk8 => ?_
  try dsimp only
  refine TS.store S7 rfl fun h9 tk9 S9 => ?_
  try dsimp only
  clear N hd oc
  -- sign
  refine wpAny_execs_cons (x5 ?_)
  obtain ⟨oc, N, hd⟩ := S9.news
  refine ev5 w X T S9.fr N (pl := (i : Int)) rfl fun tk10 => ?_
  try dsimp only
  generalize ((i : Int).fmod 2 == 1) = sg
  refine TS.store S9 rfl fun h11 tk11 S11 => ?_
  try dsimp only
  clear N hd oc
  -- figure, name
  have hfa := fa_big SZ
  have hfa0 : 0 < faN A H := Nat.lt_of_lt_of_le (by decide) hfa
  have hA0 : 0 < A := Nat.lt_of_lt_of_le (by decide) SZ.low
  obtain ⟨a1, b1, er1, ha1, hb1⟩ := fa_rep SZ
  have hn1 : ((if x < 0 then (-1 : Int) else 1) * (faN A H : Int)).natAbs = faN A H := way_abs
  have told1 := far_told (sg := sg) SZ hn1
  rw [way_neg hfa0] at told1
  generalize hneg : decide (x < 0) = neg at *
  have hct30 := ct_lt SZ
  have hdl := dg_small (by decide) hct30
  have hfl := fig_len (neg := neg) (sg := sg) (C := ctN A H)
  have hT : (Str.ofString "TiB").length = 3 := by decide +kernel
  refine wpAny_execs_cons (x6 rfl S11 (a := fig neg sg (ctN A H)) (b := Str.ofString "TiB") (fun {Q'} hq => ?_) fun h13 t13 t13' tk13 S13 => ?_)
  · obtain ⟨oc, N, hd⟩ := S11.news
    exact ev6 w X T S11.fr N (wy := if x < 0 then -1 else 1) (fr9 := (faN A H : Int)) (sg := sg) rfl rfl rfl way_mul hroom (small1023 (hn1.trans er1) ha1 hb1) (notInf (hn1.trans er1) ha1 hb1) told1 (fig_free _ _ _) (by decide +kernel) (by omega) hq
  try dsimp only
  -- count
  refine wpAny_execs_cons (x7 ?_)
  obtain ⟨oc, N, hd⟩ := S13.news
  obtain ⟨iv, hiv, hiv2⟩ := fig_int (neg := neg) (sg := sg) (C := ctN A H) (by omega)
  refine ev7 w X T S13.fr N (fg := fig neg sg (ctN A H)) rfl hiv (by omega) fun t14 tk14 => ?_
  try dsimp only
  rw [hiv2]
  refine TS.store S13 rfl fun h15 tk15 S15 => ?_
  try dsimp only
  clear N hd oc
  -- gap
  refine wpAny_execs_cons (x8 ?_)
  obtain ⟨oc, N, hd⟩ := S15.news
  refine ev8 w X T S15.fr N (ct := (ctN A H : Int)) (fr9 := (faN A H : Int)) rfl rfl (IntMulOk.of_right (by decide)) fun t16 tk16 => ?_
  try dsimp only
  have hgap := gap_ok SZ
  refine TS.store S15 rfl fun h17 tk17 S17 => ?_
  try dsimp only
  clear N hd oc
  -- if gap
  refine wpAny_execs_cons (x9 ?_)
  obtain ⟨oc, N, hd⟩ := S17.news
  refine ev9 w X T S17.fr N (ct := (ctN A H : Int)) rfl rfl hgap.1 hgap.2 fun tk18 => ⟨rfl, ?_⟩
  try dsimp only
  clear N hd oc
  -- if name
  refine wpAny_execs_cons (x10 ?_)
  obtain ⟨oc, N, hd⟩ := S17.news
  have hwn : ((if x < 0 then (-1 : Int) else 1) < 0) = (neg = true) := by
    rw [← hneg]
    by_cases hx : x < 0
    · simp [hx]
    · simp [hx]
  have hfg : fig neg sg (ctN A H) = (if (if x < 0 then (-1 : Int) else 1) < 0 then Str.ofString "-" else if sg = true then Str.ofString "+" else Str.ofString "") ++ Str.ofString (toString (ctN A H : Int)) := by
    rw [fig_text]
    simp only [hwn]
  refine ev10 w X T S17.fr N (fg := fig neg sg (ctN A H)) (wy := if x < 0 then -1 else 1) (ct := (ctN A H : Int)) (sg := sg) rfl rfl rfl rfl rfl (by omega) (by have := hct30; omega) hfg fun tk19 => ⟨rfl, ?_⟩
  try dsimp only
  clear N hd oc
  -- if parts
  have hn2 : ((if x < 0 then (-1 : Int) else 1) * (A : Int)).natAbs = A := way_abs
  have told2 := amount_told (sg := sg) SZ hn2
  rw [way_neg hA0, hneg] at told2
  obtain ⟨a2, b2, er2, ha2, hb2⟩ := SZ.rep
  have ha2' : a2 < 2 ^ 53 := by omega
  have hb2' : b2 ≤ 200 := by omega
  obtain ⟨tun, hun⟩ := hit H hHle
  have hul := unit_len hHle
  have hsl : (Str.ofString " ").length = 1 := by decide +kernel
  have last : ∀ (s' : Shared) (m' : Str → Option Value) (fg : Str) (tfg : Tok), TS h₀ L h s'.heap m' (some (.int (A : Int) t1)) → m' (Str.ofString "figure") = some (.str fg tfg) →
      m' (Str.ofString "way") = some (.int (if x < 0 then -1 else 1) t8) → m' (Str.ofString "sign") = some (.bool sg) → m' (Str.ofString "high") = some (.int ((H : Nat) : Int) t2) → m' (Str.ofString "names") = some (.ref ln) →
      fg.length ≤ 640 → fmt ((if x < 0 then (-1 : Int) else 1) * (A : Int)) sg = fg ++ Str.ofString " " ++ unitOf H → (∃ h' tk', s' = { s with heap := h', toks := tk' }) →
      wpAny (model Challenge.rw_dn0231_01.row.prog w) ⟨none, dp, fr, gd, un⟩ (execs [stmD 12] (lawEnv L fa cd)) (TurnEnd h₀ L (L + 1) (fun m => m (Str.ofString "names") = some (.ref ln)) { s with heap := h, toks := tk }) (fun _ _ => False) s' := by
    intro s' m' fg tfg S hf hw hs hh hnm hfl' heq hs'
    refine wpAny_execs_cons (x12 ?_)
    obtain ⟨oc, N, hd⟩ := S.news
    have hln' : s'.heap.IsList ln items := hln.at fun o e => S.kp ln o hlnL hlnc e
    refine ev12 w X T S.fr N hd hw hs hf hh hnm hln' (by omega) (by omega) (by rw [Int.toNat_natCast]; exact hun) way_mul hroom (small1023 (hn2.trans er2) ha2' hb2') (notInf (hn2.trans er2) ha2' hb2') (by rw [sizeLine_eq]; omega) (by rw [sizeLine_eq, Str.length_append]; omega) heq fun h20 tk20 k20 => ⟨rfl, ?_⟩
    try dsimp only
    refine wpAny_execs_nil ?_
    obtain ⟨h', tk', rfl⟩ := hs'
    have S20 := S.grow k20
    obtain ⟨oc', h1', h2'⟩ := S20.cell
    exact ⟨rfl, h20, tk20, m', rfl, S20.fr, hnm, ⟨_, oc', h1', h2'⟩, S20.kp⟩
  refine wpAny_execs_cons (x11 ?_)
  obtain ⟨oc, N, hd⟩ := S17.news
  refine ev11 w X T S17.fr N (pa := ((paN A H : Nat) : Int)) rfl fun tk21 => ?_
  try dsimp only
  by_cases hp : paN A H = 10
  · rw [hp]
    rw [if_pos hp] at told2
    have hf6 : (fig neg sg (ctN A H)).length ≤ 640 := by omega
    have hds := dot_sizes hf6
    have hDl := figD_len neg sg (ctN A H)
    refine ev11b w X T S17.fr N (fg := fig neg sg (ctN A H)) rfl (fig_pos _ _ _) hf6 hds.1 hds.2 fun t22 h22 tk22 k22 => ?_
    try dsimp only
    rw [dotted]
    refine TS.store (S17.grow k22) rfl fun h23 tk23 S23 => ?_
    try dsimp only
    exact last _ _ _ _ S23 rfl rfl rfl rfl hJ (by omega) told2 ⟨_, _, rfl⟩
  · have hp' : (((paN A H : Nat) : Int) == 10) = false := by
      simp; omega
    rw [hp']
    rw [if_neg hp] at told2
    exact last _ _ _ _ S17 rfl rfl rfl rfl hJ (by omega) told2 ⟨_, _, rfl⟩
end Mine
end

-- part It
section
open PySem PySem.W PyProof.Rows
set_option maxRecDepth 100000
set_option maxHeartbeats 2000000
namespace Mine
section
variable {prog : Program} {w : World} {A : Around} {E : Value → Shared → Prop} {s : Shared} {Q : Value → Shared → Prop}
theorem ints_pick {items : Array Value} (h : Ints items) (lo hi st : Option Int) : Ints (slicePick items lo hi st) := by
  intro i v hv
  unfold slicePick at hv
  have hm : v ∈ (List.filterMap (fun k => items[k]?) _) := List.mem_of_getElem? (by simpa using hv)
  obtain ⟨k, _, hk⟩ := List.mem_filterMap.mp hm
  exact h k v hk
theorem ints_append {a b : Array Value} (ha : Ints a) (hb : Ints b) : Ints (a ++ b) := by
  intro i v hv
  rw [Array.getElem?_append] at hv
  split at hv
  · exact ha _ _ hv
  · exact hb _ _ hv
theorem add_K {a b : Addr} {xs ys : Array Value} (ha : s.heap.IsList a xs) (hb : s.heap.IsList b ys) (hx : xs.size ≤ 100) (hy : ys.size ≤ 100)
    (h : ∀ h', h'.IsList s.heap.objs.size (xs ++ ys) → Kept s.heap h' → h'.objs.size = s.heap.objs.size + 1 → Q (.ref s.heap.objs.size) { s with heap := h' }) :
    wpAny (model prog w) A (binaryOp .Add (.ref a) (.ref b)) Q E s := by
  obtain ⟨⟨cls, dd, data, sl⟩, ho, hc, n, hd⟩ := id ha
  obtain ⟨⟨cls2, dd2, data2, sl2⟩, ho2, hc2, n2, hd2⟩ := id hb
  simp only at hc hd hc2 hd2
  subst hc hd hc2 hd2
  refine concat_meets ⟨_, ho, rfl⟩ ⟨_, ho2, rfl⟩ noFill_list_add seq_list_add PySem.F.slot_list_add PySem.F.entry_list_add (PySem.F.args_list_add_2 _ _) (list_addW a b xs ys n n2 dd dd2 sl sl2 (by rw [sizeLine_eq]; omega)) ⟨ho, ho2, ?_⟩
  exact h _ ⟨_, Heap.get?_push_size _ rfl, rfl, _, rfl⟩ (fun c o e => Heap.get?_push_of_some _ e) (Heap.size_push ..)
theorem sub_none {L fa : Addr} {cd : Value} {h₀ : Heap} {m : Str → Option Value} {np cp sp pos : Pos} {D : Addr} {ws : Array Value} (F : Fr h₀ L s.heap m) (hnum : m (Str.ofString "numbers") = some (.ref D)) (hD : s.heap.IsList D ws) (hsz : ws.size ≤ 100)
    (h : ∀ l h' tk, h'.IsList l (slicePick ws none none (some 2)) → Kept s.heap h' → Fr h₀ L h' m → s.heap.objs.size ≤ l → Q (.ref l) { s with heap := h', toks := tk }) :
    wpAny (model prog w) A (eval (.Subscript (.Name (Str.ofString "numbers") np) (.Slice none none (some (.Constant (.int 2) 0 cp)) sp) pos) (lawEnv L fa cd)) Q E s := by
  refine wpAny_Subscript_Slice_step (T := "list") list_getitem_lookup ?_
  refine wpAny_Name (wpAny_loadName_local rfl rfl F.ns hnum ?_) (by decide)
  refine wpAny_Slice (wpAny_pure (wpAny_pure (wpAny_Constant_int (k := 0) (pos := cp) ?_)))
  have k1 : Kept s.heap (s.heap.push { cls := .type "slice", data := .fields #[.none, .none, .int 2 s.toks] }) := fun c o e => Heap.get?_push_of_some _ e
  have hD1 := listKept hD k1
  refine ⟨hD1.typeIs, wpAny_getItem_list_slice hD1 (Heap.IsSliceOf.new _ _ _ _) .none .none (.int 2 _) (by decide) ?_ (by rw [sizeLine_eq]; omega)⟩
  have k2 : Kept s.heap ((s.heap.push { cls := .type "slice", data := .fields #[.none, .none, .int 2 s.toks] }).push { cls := .type "list", data := .seq (slicePick ws none none (some 2)) }) := fun c o e => Heap.get?_push_of_some _ (k1 c o e)
  exact h _ _ _ ⟨_, Heap.get?_push_size _ rfl, rfl, _, rfl⟩ k2 ⟨F.ns.keeps k2, fun b o e => k2 b o (F.keep b o e), F.above⟩ (by show _ ≤ (s.heap.push _).objs.size; rw [Heap.size_push]; omega)
theorem sub_one {L fa : Addr} {cd : Value} {h₀ : Heap} {m : Str → Option Value} {np op cp sp pos : Pos} {D : Addr} {ws : Array Value} (F : Fr h₀ L s.heap m) (hnum : m (Str.ofString "numbers") = some (.ref D)) (hD : s.heap.IsList D ws) (hsz : ws.size ≤ 100)
    (h : ∀ l h' tk, h'.IsList l (slicePick ws (some 1) none (some 2)) → Kept s.heap h' → Fr h₀ L h' m → s.heap.objs.size ≤ l → Q (.ref l) { s with heap := h', toks := tk }) :
    wpAny (model prog w) A (eval (.Subscript (.Name (Str.ofString "numbers") np) (.Slice (some (.Constant (.int 1) 0 op)) none (some (.Constant (.int 2) 0 cp)) sp) pos) (lawEnv L fa cd)) Q E s := by
  refine wpAny_Subscript_Slice_step (T := "list") list_getitem_lookup ?_
  refine wpAny_Name (wpAny_loadName_local rfl rfl F.ns hnum ?_) (by decide)
  refine wpAny_Slice (wpAny_Constant_int (k := 0) (pos := op) (wpAny_pure (wpAny_Constant_int (k := 0) (pos := cp) ?_)))
  have k1 : Kept s.heap (s.heap.push { cls := .type "slice", data := .fields #[.int 1 s.toks, .none, .int 2 (s.toks + 1)] }) := fun c o e => Heap.get?_push_of_some _ e
  have hD1 := listKept hD k1
  refine ⟨hD1.typeIs, wpAny_getItem_list_slice hD1 (Heap.IsSliceOf.new _ _ _ _) (.int 1 _) .none (.int 2 _) (by decide) ?_ (by rw [sizeLine_eq]; omega)⟩
  have k2 : Kept s.heap ((s.heap.push { cls := .type "slice", data := .fields #[.int 1 s.toks, .none, .int 2 (s.toks + 1)] }).push { cls := .type "list", data := .seq (slicePick ws (some 1) none (some 2)) }) := fun c o e => Heap.get?_push_of_some _ (k1 c o e)
  exact h _ _ _ ⟨_, Heap.get?_push_size _ rfl, rfl, _, rfl⟩ k2 ⟨F.ns.keeps k2, fun b o e => k2 b o (F.keep b o e), F.above⟩ (by show _ ≤ (s.heap.push _).objs.size; rw [Heap.size_push]; omega)
end
open AutoSeq1 (wpAny_loadPart') in
theorem meets_enum_zip (z TI TO : Addr) :
    Meets (Builtin.«enumerate.__new__» ⟨[.type "enumerate", .ref z], []⟩) (fun _ R s => IsZip s.heap z TI TO .none ∧
      R (.ok (.ret (.ref s.heap.objs.size))) { s with heap := s.heap.push { cls := .type "enumerate", data := .fields #[.none, .bool false, .ref z, rawInt 0, .none, .none] } }) :=
  .of_wp fun prog w A R s h => by
    obtain ⟨hp, g, d, tk, os⟩ := s; obtain ⟨hl, h⟩ := h
    have hsub := sub_enumerate
    have hL : IsZip (Shared.heap ⟨hp, g, d, tk, os⟩) z TI TO .none := hl
    wp_walk using wpAny_loadPart' hl
    refine wpAny_stack_any fun st => wpAny_pure ?_
    split
    · rename_i c _ _ _ _ _
      cases (c == Value.type "enumerate")
      · wp_walk using wpAny_loadPart' hl, wpAny_pyIter_zip hL
        exact ⟨_, rfl, h⟩
      · wp_walk using wpAny_loadPart' hl, wpAny_pyIter_zip hL
        exact ⟨_, rfl, h⟩
    · wp_walk using wpAny_loadPart' hl, wpAny_pyIter_zip hL
      exact ⟨_, rfl, h⟩
theorem enum_K {prog : Program} {w : World} {A : Around} {E : Value → Shared → Prop} {s : Shared} {Q : Value → Shared → Prop} {z TI TO : Addr} (hz : IsZip s.heap z TI TO .none)
    (h : ∀ h', IsEnum h' s.heap.objs.size z 0 .none → h'.objs.size = s.heap.objs.size + 1 → Kept s.heap h' → Q (.ref s.heap.objs.size) { s with heap := h' }) :
    wpAny (model prog w) A (call (.type "enumerate") [.ref z]) Q E s := by
  refine callType_new F.called_enumerate (by decide) (F.typeCall_enumerate_1 _) (F.newCall_enumerate_1 _) (fun obj => F.args_object_init_2 obj _) F.entry_enumerate_new
    (meets_enum_zip z TI TO) ⟨hz, ?_⟩
  exact ⟨⟨_, Heap.get?_push_size _ rfl, rfl⟩, h _ (Heap.get?_push_size _ rfl) (Heap.size_push ..) fun c o e => Heap.get?_push_of_some _ e⟩
end Mine
end

-- part Fo
section
open PySem PySem.W PyProof.Rows
set_option maxRecDepth 100000
set_option maxHeartbeats 2000000
namespace Mine
def forStmt : Stmt := match lawBody with
  | [_, _, _, f, _] => f
  | _ => .Pass default
theorem for_shape : ∃ p1 p2 p3 p4 p5 p6 k1 k2, forStmt = .For (.Tuple [.Name (Str.ofString "place") p1, .Tuple [.Name (Str.ofString "x") p2, .Name (Str.ofString "y") p3] k1 p4] k2 p5) forIter forBody [] p6 := ⟨_, _, _, _, _, _, _, _, rfl⟩
theorem iter_shape : ∃ p1 p2 p3 p4 p5 p6 p7 p8 p9 q1 q2 q3 q4 q5 q6 q7, forIter = .Call (.Name (Str.ofString "enumerate") p1) [.Call (.Name (Str.ofString "zip") p2) [
    .Subscript (.Name (Str.ofString "numbers") p3) (.Slice none none (some (.Constant (.int 2) 0 p4)) p5) p6,
    .BinOp (.Subscript (.Name (Str.ofString "numbers") p7) (.Slice (some (.Constant (.int 1) 0 p8)) none (some (.Constant (.int 2) 0 p9)) q1) q2) .Add (.List [.Constant (.int 0) 0 q3] q4) q5] [] q6] [] q7 := ⟨_, _, _, _, _, _, _, _, _, _, _, _, _, _, _, _, rfl⟩
section
variable (w : World) {mean : ExcName → Option Value} {mg mb : Str → Option Value} {dp un : Nat} {fr : Option (List Env)} {gd : Option (List Code)} {h₀ : Heap} {L fa : Addr} {cd : Value} {s : Shared} {m : Str → Option Value} {Q : Value → Shared → Prop} {E : Value → Shared → Prop} {p : Pos}
theorem nm_zip (X : (hd0231.heap_39 w.params).In h₀) (T : Top hd0231.view_39 (looseW hd0231.view_39 []) mean mg mb h₀) (F : Fr h₀ L s.heap m) (h : Q (.type "zip") s) :
    wpAny (model Challenge.rw_dn0231_01.row.prog w) ⟨none, dp, fr, gd, un⟩ (eval (.Name (Str.ofString "zip") p) (lawEnv L fa cd)) Q E s := by
  w_on
  w_top on
  revert X; k_fill; intro X
  dsimp only [lawEnv, lawScope, lawBody, Challenge.pw_dn0231_01]
  w_strict (repeat' (first | exact h | walk1 | fail "no step"))
theorem nm_enum (X : (hd0231.heap_39 w.params).In h₀) (T : Top hd0231.view_39 (looseW hd0231.view_39 []) mean mg mb h₀) (F : Fr h₀ L s.heap m) (h : Q (.type "enumerate") s) :
    wpAny (model Challenge.rw_dn0231_01.row.prog w) ⟨none, dp, fr, gd, un⟩ (eval (.Name (Str.ofString "enumerate") p) (lawEnv L fa cd)) Q E s := by
  w_on
  w_top on
  revert X; k_fill; intro X
  dsimp only [lawEnv, lawScope, lawBody, Challenge.pw_dn0231_01]
  w_strict (repeat' (first | exact h | walk1 | fail "no step"))
end
/-- what the loop's iterator is made of, laid over the heap h -/
structure Laid (h h' : Heap) (e z TI TO i1 i2 l1 l2 : Nat) (xs ys : Array Value) : Prop where
  en : IsEnum h' e z 0 .none
  zp : IsZip h' z TI TO .none
  ti : IsPair h' TI (.ref i1) (.ref i2)
  to : IsPair h' TO .none .none
  it1 : h'.IsListIter i1 l1 0
  it2 : h'.IsListIter i2 l2 0
  ls1 : h'.IsList l1 xs
  ls2 : h'.IsList l2 ys
  ix : Ints xs
  iy : Ints ys
  kp : Kept h h'
  lo1 : h.objs.size ≤ l1
  lo2 : l1 < l2
  lo3 : l2 < i1
  e1 : i2 = i1 + 1
  e2 : TI = i1 + 2
  e3 : TO = i1 + 3
  e4 : z = i1 + 4
  e5 : e = i1 + 5
theorem evI (w : World) {mean : ExcName → Option Value} {mg mb : Str → Option Value} {dp un : Nat} {fr : Option (List Env)} {gd : Option (List Code)} {h₀ : Heap} {L fa : Addr} {cd : Value} {s : Shared} {m : Str → Option Value} {Q : Value → Shared → Prop} {E : Value → Shared → Prop}
    (X : (hd0231.heap_39 w.params).In h₀) (T : Top hd0231.view_39 (looseW hd0231.view_39 []) mean mg mb h₀) (F : Fr h₀ L s.heap m) {D : Addr} {ws : Array Value} (hnum : m (Str.ofString "numbers") = some (.ref D)) (hD : s.heap.IsList D ws) (hI : Ints ws) (hsz : ws.size ≤ 90)
    (h : ∀ h' tk e z TI TO i1 i2 l1 l2 xs ys, Laid s.heap h' e z TI TO i1 i2 l1 l2 xs ys → Q (.ref e) { s with heap := h', toks := tk }) :
    wpAny (model Challenge.rw_dn0231_01.row.prog w) ⟨none, dp, fr, gd, un⟩ (eval forIter (lawEnv L fa cd)) Q E s := by
  obtain ⟨p1, p2, p3, p4, p5, p6, p7, p8, p9, q1, q2, q3, q4, q5, q6, q7, e⟩ := iter_shape
  rw [e]
  refine wpAny_Call_NameR (nm_enum w X T F ?_)
  refine PySem.callWith_type rfl (Calls.evalArgs_plain (Calls.spliced_cons ?_))
  refine wpAny_Call_NameR (nm_zip w X T F ?_)
  refine PySem.callWith_type rfl (Calls.evalArgs_plain (Calls.spliced_cons ?_))
  refine sub_none F hnum hD (by omega) fun l1 h1 tk1 hl1 k1 F1 b1 => ?_
  refine Calls.spliced_cons (wpAny_BinOp (sub_one F1 hnum (listKept hD k1) (by omega) fun l2 h2 tk2 hl2 k2 F2 b2 => ?_))
  refine wpAny_List_spliced (Calls.spliced_cons (wpAny_Constant_int (k := 0) (pos := q3) (Calls.spliced_nil ⟨by rw [sizeLine_eq]; exact (by decide : 1 ≤ 16777216), ?_⟩)))
  dsimp only
  have k3 : Kept h2 (h2.push { cls := .type "list", data := .seq [Value.int 0 tk2].toArray }) := fun c o e => Heap.get?_push_of_some _ e
  refine add_K (listKept hl2 k3) ⟨_, Heap.get?_push_size _ rfl, rfl, _, rfl⟩ ?_ (show 1 ≤ 100 by decide) fun h4 hl4 k4 z4 => ?_
  · have := slicePick_size_le ws (some 1) none (some 2)
    omega
  dsimp only at hl4 k4 z4 ⊢
  refine Calls.spliced_nil ?_
  dsimp only [List.nil_append]
  have kk : Kept s.heap h4 := k1.trans (k2.trans (k3.trans k4))
  have hl1' : h4.IsList l1 (slicePick ws none none (some 2)) := listKept (listKept (listKept hl1 k2) k3) k4
  refine call_zip_2 hl1' hl4 fun h5 hz hTI hTO hi1 hi2 z5 k5 => ?_
  dsimp only at hz hTI hTO hi1 hi2 z5 k5 ⊢
  refine Calls.spliced_nil ?_
  try dsimp only [List.nil_append]
  refine enum_K hz fun h6 he z6 k6 => ?_
  dsimp only at he z6 k6 ⊢
  have hsz3 : (h2.push { cls := .type "list", data := .seq [Value.int 0 tk2].toArray }).objs.size = h2.objs.size + 1 := Heap.size_push ..
  have hl1lt : @LT.lt Nat _ l1 h1.objs.size := by obtain ⟨o, ho, _⟩ := hl1; exact Heap.lt_size ho
  have hl2lt : @LT.lt Nat _ l2 h2.objs.size := by obtain ⟨o, ho, _⟩ := hl2; exact Heap.lt_size ho
  have b2' : @LE.le Nat _ h1.objs.size l2 := b2
  refine h _ _ _ _ _ _ _ _ _ _ _ _ { en := he, zp := k6 _ _ hz, ti := k6 _ _ hTI, to := k6 _ _ hTO, it1 := hi1.at fun o e => k6 _ o e, it2 := hi2.at fun o e => k6 _ o e, ls1 := hl1'.at fun o e => k6 _ o (k5 _ o e), ls2 := hl4.at fun o e => k6 _ o (k5 _ o e), ix := ints_pick hI _ _ _, iy := ints_append (ints_pick hI _ _ _) ?_, kp := kk.trans (fun c o e => k6 c o (k5 c o e)), lo1 := b1, lo2 := ?_, lo3 := ?_, e1 := rfl, e2 := rfl, e3 := rfl, e4 := rfl, e5 := z5 }
  · intro i v hv
    match i with
    | 0 => exact ⟨0, tk2, by simpa using hv.symm⟩
    | i + 1 => simp at hv
  · rw [hsz3]; omega
  · rw [z4]; exact Nat.lt_succ_self _
theorem for_ok (w : World) {mean : ExcName → Option Value} {mg mb : Str → Option Value} {dp un : Nat} {fr : Option (List Env)} {gd : Option (List Code)} {h₀ : Heap} {L fa : Addr} {cd : Value} {s : Shared} {m : Str → Option Value} {Q : Flow → Shared → Prop} {E : Value → Shared → Prop}
    (X : (hd0231.heap_39 w.params).In h₀) (T : Top hd0231.view_39 (looseW hd0231.view_39 []) mean mg mb h₀) (hroom : dp + 1 < recursionLimit) (F : Fr h₀ L s.heap m) {oc : Obj} {cv : Option Value} (hoc : s.heap.get? (L + 1) = some oc) (hdc : oc.data = .cell cv) (hnew : h₀.get? (L + 1) = none)
    {D ln : Addr} {ws items : Array Value} (hnum : m (Str.ofString "numbers") = some (.ref D)) (hnam : m (Str.ofString "names") = some (.ref ln)) (hD : s.heap.IsList D ws) (hI : Ints ws) (hsz : ws.size ≤ 90)
    (hln : s.heap.IsList ln items) (hlnL : ln ≠ L) (hlnc : ln ≠ L + 1) (hit : ∀ k, k ≤ 4 → ∃ t, items[k]? = some (.str (unitOf k) t))
    (hQ : ∀ h' tk m', Fr h₀ L h' m' → Q .next { s with heap := h', toks := tk }) :
    wpAny (model Challenge.rw_dn0231_01.row.prog w) ⟨none, dp, fr, gd, un⟩ (exec forStmt (lawEnv L fa cd)) Q E s := by
  obtain ⟨p1, p2, p3, p4, p5, p6, k1, k2, e⟩ := for_shape
  rw [e]
  refine wpAny_For (evI w X T F hnum hD hI hsz fun h1 tk1 e z TI TO i1 i2 l1 l2 xs ys G => ?_) ?hs
  case hs =>
    obtain ⟨_, _, _, _, _, _, _, _, _, _, _, _, _, _, _, _, e'⟩ := iter_shape
    rw [e']
    intro _; rfl
  have hLlt : @LT.lt Nat _ L s.heap.objs.size := F.ns.lt
  have hclt : @LT.lt Nat _ (L + 1) s.heap.objs.size := Heap.lt_size hoc
  have hlnlt : @LT.lt Nat _ ln s.heap.objs.size := by obtain ⟨o, ho, _⟩ := hln; exact Heap.lt_size ho
  have hab : @LE.le Nat _ h₀.objs.size L := F.above
  have g1 := G.lo1
  have l2' := G.lo2
  have l3' := G.lo3
  have e1 := G.e1
  have e2 := G.e2
  have e3 := G.e3
  have e4 := G.e4
  have e5 := G.e5
  have nw : ∀ a : Nat, @LE.le Nat _ s.heap.objs.size a → h₀.get? a = none := fun a ha => Heap.get?_none_of_le (show @LE.le Nat _ _ _ by omega)
  refine wpAny_pyIter_enum G.en ?_
  refine loop_enumz (h₀ := h₀) (m := m) (c := L + 1) (J := fun m => m (Str.ofString "names") = some (.ref ln)) rfl rfl rfl rfl rfl ?_ G.ix G.iy ?_ (Nat.succ_ne_self L) ?_ G.en ⟨.inl G.zp, G.ti, ⟨_, _, G.to⟩, G.it1, G.it2, G.ls1, G.ls2⟩ ⟨F.ns.keeps G.kp, fun b o e => G.kp b o (F.keep b o e), F.above⟩ ⟨cv, oc, G.kp _ _ hoc, hdc⟩ hnam ?_ ?_
  · have ne : ∀ {a b : Nat}, a < b ∨ b < a → a ≠ b := fun h => by omega
    exact { TIz := ne (by omega), TOz := ne (by omega), i1z := ne (by omega), i2z := ne (by omega), TITO := ne (by omega), TIi1 := ne (by omega), TIi2 := ne (by omega), TOi1 := ne (by omega), TOi2 := ne (by omega), i12 := ne (by omega), l1z := ne (by omega), l1TO := ne (by omega), l1i1 := ne (by omega), l1i2 := ne (by omega), l2z := ne (by omega), l2TO := ne (by omega), l2i1 := ne (by omega), l2i2 := ne (by omega), ez := ne (by omega), eTI := ne (by omega), eTO := ne (by omega), ei1 := ne (by omega), ei2 := ne (by omega), el1 := ne (by omega), el2 := ne (by omega) }
  · intro a ha
    simp only [List.mem_cons, List.not_mem_nil, or_false] at ha
    have h2 : @LE.le Nat _ s.heap.objs.size a := by
      rcases ha with rfl | rfl | rfl | rfl | rfl | rfl | rfl | rfl <;> omega
    exact ⟨Nat.ne_of_gt (show @LT.lt Nat _ L a by omega), Nat.ne_of_gt (show @LT.lt Nat _ (L + 1) a by omega)⟩
  · intro a ha
    simp only [List.mem_cons, List.not_mem_nil, or_false] at ha
    rcases ha with rfl | rfl | rfl | rfl | rfl | rfl
    · exact nw _ (by omega)
    · exact nw _ (by omega)
    · exact nw _ (by omega)
    · exact nw _ (by omega)
    · exact nw _ (by omega)
    · exact hnew
  · intro i x y ti tx ty m₁ h tk hJ F' hc' hk
    refine turn w X T hroom hJ F' hc' hnew (hln.at fun o e => hk ln o ?_ (G.kp ln o e)) hlnL hlnc hit
    intro hm
    have hm' := hm
    simp only [List.mem_cons, List.not_mem_nil, or_false] at hm'
    rcases hm' with r | r | r | r | r | r | r
    · exact Nat.ne_of_lt (show @LT.lt Nat _ ln _ by omega) r
    · exact Nat.ne_of_lt (show @LT.lt Nat _ ln _ by omega) r
    · exact Nat.ne_of_lt (show @LT.lt Nat _ ln _ by omega) r
    · exact Nat.ne_of_lt (show @LT.lt Nat _ ln _ by omega) r
    · exact Nat.ne_of_lt (show @LT.lt Nat _ ln _ by omega) r
    · exact hlnL r
    · exact hlnc r
  · intro h' tk m' F' _
    exact hQ h' tk m' F'
end Mine
end

-- part Fin0
section
open PySem PySem.W PyProof.Rows
set_option maxRecDepth 100000
set_option maxHeartbeats 8000000
namespace Mine
theorem ints_of {vs : List Value} {ns : List Int} (h : IntsAre vs ns) : Ints vs.toArray := by
  intro i v hv
  have hv' : vs[i]? = some v := by simpa using hv
  have hlt : i < vs.length := (List.getElem?_eq_some_iff.mp hv').1
  have hl := h.length
  obtain ⟨t, ht⟩ := h.get i ns[i] (by simp)
  rw [hv'] at ht
  exact ⟨_, t, Option.some.inj ht⟩
theorem for_N (w : World) {mean : ExcName → Option Value} {mg mb : Str → Option Value} {dp un : Nat} {fr : Option (List Env)} {gd : Option (List Code)} {h₀ : Heap} {L fa : Addr} {cd : Value} {s : Shared} {m : Str → Option Value} {Q : Flow → Shared → Prop} {E : Value → Shared → Prop} {news : List (Addr × Obj)}
    {D ln : Addr} {ws : List Value} {ns : List Int} {t0 t1 t2 t3 t4 : Tok} {oc : Obj} {cv : Option Value}
    (X : (hd0231.heap_39 w.params).In h₀) (T : Top hd0231.view_39 (looseW hd0231.view_39 []) mean mg mb h₀) (hroom : dp + 1 < recursionLimit) (F : Fr h₀ L s.heap m) (N : News h₀ L s.heap news)
    (hnum : m (Str.ofString "numbers") = some (.ref D)) (hnam : m (Str.ofString "names") = some (.ref ln)) (m1 : (D, W.listOf ws.toArray 0) ∈ news)
    (m2 : (ln, W.listOf #[.str (Str.ofString "B") t0, .str (Str.ofString "KiB") t1, .str (Str.ofString "MiB") t2, .str (Str.ofString "GiB") t3, .str (Str.ofString "TiB") t4] 0) ∈ news) (m3 : (L + 1, oc) ∈ news)
    (hd : oc.data = .cell cv) (hi : IntsAre ws ns) (hlen : ns.length ≤ 79) (hlt : @LT.lt Nat _ (L + 1) ln)
    (hQ : ∀ h' tk m', Fr h₀ L h' m' → News h₀ L h' [] → Q .next { s with heap := h', toks := tk }) :
    wpAny (model Challenge.rw_dn0231_01.row.prog w) ⟨none, dp, fr, gd, un⟩ (exec forStmt (lawEnv L fa cd)) Q E s := by
  have hl := hi.length
  refine for_ok w X T hroom F (N _ m3).1 hd (N _ m3).2.2 hnum hnam (ws := ws.toArray) ⟨_, (N _ m1).1, rfl, _, rfl⟩ (ints_of hi) (by simp; omega) ⟨_, (N _ m2).1, rfl, _, rfl⟩ (N _ m2).2.1 (Nat.ne_of_gt hlt) ?_ fun h' tk m' F' => hQ h' tk m' F' News.nil
  intro k hk
  match k, hk with
  | 0, _ => exact ⟨_, rfl⟩
  | 1, _ => exact ⟨_, rfl⟩
  | 2, _ => exact ⟨_, rfl⟩
  | 3, _ => exact ⟨_, rfl⟩
  | 4, _ => exact ⟨_, rfl⟩
local macro_rules | `(tactic| walk_at "exec For Tuple Call cons nil") => `(tactic| (k_here; k_dflt (refine' for_N _ ?fX ?fT ?fr ?fF ?fN ?fnu ?fna ?fm1 ?fm2 ?fm3 ?fd ?fi ?fl ?flt ?_; (case fX => k_asm); (case fT => k_asm); (case fF => k_asm); (case fN => k_asm); (case fnu => rfl); (case fna => rfl); (case fm1 => k_mem); (case fm2 => k_mem); (case fm3 => k_mem); (case fd => assumption); (case fi => assumption); (case fr => decide); (case fl => (simp only [List.length_append, List.length_cons, List.length_nil]; omega)); (case flt => omega)); intro h9 tk9 m9 F9 N9))
theorem final : PySem.Challenge.rw_dn0231_01.Holds := hd0231 (by w_strict k_go)
end Mine
end

open PySem PySem.W PyProof.Rows
theorem PySem.Challenge.cw_dn0231_01_holds : PySem.Challenge.rw_dn0231_01.Holds := by
  exact Mine.final
