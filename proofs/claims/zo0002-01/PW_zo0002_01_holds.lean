import PyProof.Rows.All
import Wide.All
import OpenK.AllK
import Wide.FinOn
import Flt.RightMore
import Flt.Calls
import PySem.Challenge.RW_zo0002_01
set_option compiler.extract_closed false
set_option Elab.async false
set_option maxRecDepth 100000
section
open PySem PySem.W PyProof.Rows
set_option maxRecDepth 100000
set_option maxHeartbeats 0
namespace Mine
open_top hd for PySem.Challenge.rw_zo0002_01
end Mine
end
section
namespace Mine
open PySem
/- a goal is put by, as a variable: what is taken apart meanwhile does not copy it -/
theorem hide {p : Prop} (h : ∀ G : Prop, (p → G) → G) : p := h p id
noncomputable def vF (m1 m2 hue : UInt64) : UInt64 :=
  let h := (Float64.divmod hue 4607182418800017408).snd
  if (Float64.cmp h 4595172819793696085 == some Ordering.lt) = true then
    Float64.add m1 (Float64.mul (Float64.mul (Float64.sub m2 m1) h) 4618441417868443648)
  else if (Float64.cmp h 4602678819172646912 == some Ordering.lt) = true then m2
  else if (Float64.cmp h 4604180019048437077 == some Ordering.lt) = true then
    Float64.add m1 (Float64.mul (Float64.mul (Float64.sub m2 m1) (Float64.sub 4604180019048437077 h)) 4618441417868443648)
  else m1

noncomputable def ltF (x y : UInt64) : Bool := Float64.cmp x y == some .lt
noncomputable def max3F (x y z : UInt64) : UInt64 := if ltF x y then (if ltF y z then z else y) else (if ltF x z then z else x)
noncomputable def min3F (x y z : UInt64) : UInt64 := if ltF y x then (if ltF z y then z else y) else (if ltF z x then z else x)
noncomputable def eqF (x y : UInt64) : Bool := Float64.cmp x y == some .eq
noncomputable def leF (x y : UInt64) : Bool := Float64.cmp x y == some .lt || Float64.cmp x y == some .eq
noncomputable def lumF (r g b : UInt64) : UInt64 := Float64.div (Float64.add (max3F r g b) (min3F r g b)) 4611686018427387904
noncomputable def rngF (r g b : UInt64) : UInt64 := Float64.sub (max3F r g b) (min3F r g b)
noncomputable def satF (r g b : UInt64) : UInt64 :=
  if leF (lumF r g b) 4602678819172646912 = true then Float64.div (rngF r g b) (Float64.add (max3F r g b) (min3F r g b))
  else Float64.div (rngF r g b) (Float64.sub (Float64.sub 4611686018427387904 (max3F r g b)) (min3F r g b))
noncomputable def partF (r g b c : UInt64) : UInt64 := Float64.div (Float64.sub (max3F r g b) c) (rngF r g b)
noncomputable def rawHueF (r g b : UInt64) : UInt64 :=
  if eqF r (max3F r g b) = true then Float64.sub (partF r g b b) (partF r g b g)
  else if eqF g (max3F r g b) = true then Float64.sub (Float64.add 4611686018427387904 (partF r g b r)) (partF r g b b)
  else Float64.sub (Float64.add 4616189618054758400 (partF r g b g)) (partF r g b r)
noncomputable def hueF (r g b : UInt64) : UInt64 := (Float64.divmod (Float64.div (rawHueF r g b) 4618441417868443648) 4607182418800017408).snd
noncomputable def hlsF (r g b : UInt64) : UInt64 × UInt64 × UInt64 :=
  if eqF (min3F r g b) (max3F r g b) = true then (0, lumF r g b, 0) else (hueF r g b, lumF r g b, satF r g b)
noncomputable def NoZ (r g b : UInt64) : Prop := eqF (min3F r g b) (max3F r g b) = false →
  Float64.isZero (rngF r g b) = false ∧ (leF (lumF r g b) 4602678819172646912 = true → Float64.isZero (Float64.add (max3F r g b) (min3F r g b)) = false) ∧
  (leF (lumF r g b) 4602678819172646912 = false → Float64.isZero (Float64.sub (Float64.sub 4611686018427387904 (max3F r g b)) (min3F r g b)) = false)

noncomputable def m2F (l s : UInt64) : UInt64 := if leF l 4602678819172646912 = true then Float64.mul l (Float64.add 4607182418800017408 s) else Float64.sub (Float64.add l s) (Float64.mul l s)
noncomputable def m1F (l s : UInt64) : UInt64 := Float64.sub (Float64.mul 4611686018427387904 l) (m2F l s)
noncomputable def backF (h l s : UInt64) : UInt64 × UInt64 × UInt64 :=
  if eqF s 0 = true then (l, l, l)
  else (vF (m1F l s) (m2F l s) (Float64.add h 4599676419421066581), vF (m1F l s) (m2F l s) h, vF (m1F l s) (m2F l s) (Float64.sub h 4599676419421066581))

noncomputable def divI (a b : Int) : UInt64 := Float64.ofFrac (decide (a < 0) != decide (b < 0)) a.natAbs b.natAbs
end Mine
end
section
set_option compiler.extract_closed false
namespace Mine
open Lean
/- how a premise of a rule is closed -/
def clo (c : Char) : TSyntax `tactic := Unhygienic.run (match c with
  | 'A' => `(tactic| k_asm)
  | 'R' => `(tactic| rfl)
  | 'E' => `(tactic| exact rfl)
  | 'M' => `(tactic| k_mem)
  | 'N' => `(tactic| k_ne)
  | 'S' => `(tactic| assumption)
  | 's' => `(tactic| with_reducible assumption)
  | 'D' => `(tactic| decide)
  | 'I' => `(tactic| k_is)
  | 'k' => `(tactic| k_keys)
  | 'r' => `(tactic| ktr_room)
  | 'u' => `(tactic| ktr_units)
  | 'w' => `(tactic| with_unfolding_all rfl)
  | 'F' => `(tactic| (intro _; with_unfolding_all rfl))
  | 'T' => `(tactic| (apply_assumption; first | assumption | omega))
  | 'B' => `(tactic| boot_fast)
  | 'l' => `(tactic| lcg_src)
  | 'K' => `(tactic| ke_room)
  | 'o' => `(tactic| omega)
  | 'z' => `(tactic| size_fits)
  | 'G' => `(tactic| (intro _; rfl))
  | 'q' => `(tactic| with_reducible rfl)
  | 'L' => `(tactic| exact Nat.le_of_ble_eq_true rfl)
  | _ => `(tactic| walk_at $(Syntax.mkStrLit c.toString)))
/- one premise: the tactics tried in turn; '?' leaves it -/
def cls (s : String) : Term := Unhygienic.run (if s == "?" then `(?_) else `(by first $[| $((s.toList.map clo).toArray):tactic]*))
/- lines of the walk: at a key the rules that are tried, each with the ways its premises are closed; a '!' ahead: only where it fits as it stands -/
def tbl (l : List (String × Bool × List (Name × String))) (k : StrLit) : MacroM (TSyntax `tactic) :=
  match l.lookup k.getString with
  | none => Macro.throwUnsupported
  | some (b, r) =>
    let ts : List (TSyntax `tactic) := r.map fun x => match x.2.splitOn " " with
      | "!" :: cs => Unhygienic.run `(tactic| refine $(Syntax.mkApp (mkCIdent x.1) (cs.map fun c => Unhygienic.run (if c == "?" then `(?_) else `(by k_dflt (exact $(cls c))))).toArray))
      | cs => Unhygienic.run `(tactic| k_dflt (refine $(Syntax.mkApp (mkCIdent x.1) (cs.map cls).toArray)))
    if b then `(tactic| (k_here; first $[| $(ts.toArray):tactic]*; intros; try dsimp only))
    else `(tactic| (k_here; first $[| ($(ts.toArray):tactic; k_dflt k_whole)]*))
end Mine
end
section
open PySem PySem.W PyProof.Rows PySem.Spec PySem.Calls PySem.Flt
set_option maxRecDepth 100000
set_option maxHeartbeats 0
namespace Mine
open Sem (wp)
noncomputable abbrev P0 : Program := PySem.Challenge.rw_zo0002_01.row.prog
noncomputable abbrev V0 : Program := hd.view_39
noncomputable abbrev loose0 : List Str := looseW hd.view_39 [Str.ofString "ONE_THIRD", Str.ofString "ONE_SIXTH", Str.ofString "TWO_THIRD", Str.ofString "UTC_ZONES", Str.ofString "TIMEZONE_RE"]

section
variable {prog : Program} {w : World} {A A₀ : Around} {s : Shared} {K : Frag} {L : Addr} {h₀ base : Heap} {m mg mb : Str → Option Value} {p : Program} {loose : List Str} {mean : ExcName → Option Value}
/- a def is entered; all that stands is the ground of its frame -/
theorem code_base {env : Env} {outer : List Env} {R : Result → Shared → Prop} {name qual : Str} {params : Arguments} {body : List Stmt} {scope : Scope} {dV kV doc pm cdv ct oc : Value} {an od : Option Addr} {osl : Array (Option Value)} {f : Addr} {args : Args} {binds : List (Str × Value)}
    (B : Below A₀ base outer h₀) (F : Fr h₀ L s.heap m) (X₀ : K.In h₀) (T : Top p loose mean mg mb h₀) (hA : A.frames = some (env :: outer)) (hf : env.frame = some L) (hke : env.scope.kind = .function)
    (ho : K.lookup f = some ⟨oc, od, .func (fnOf name qual params body scope dV kV doc pm an cdv ct), osl⟩) (hcd : codeIn K cdv qual = true) (hroom : A.depth < recursionLimit)
    (hbind : BindsTo s (fnOf name qual params body scope dV kV doc pm an cdv ct) args binds) (hloc : ∀ y ∈ binds, scope.names.lookup y.1 = some .local)
    (h : ∀ L' h₁ tk, Fr s.heap L' h₁ (fun y => binds.reverse.lookup y) → News s.heap L' h₁ [] → Below A base (env :: outer) s.heap → K.In s.heap → Top p loose mean mg mb s.heap →
      wpAny (model prog w) (A.deeper (envOf qual scope L' f cdv)) (execs body (envOf qual scope L' f cdv))
        (fun fl s' => LeaveK h₀ L m s.heap R (match fl with | .ret v => v | _ => .none) s')
        (fun e s' => wpAny (model prog w) (A.deeper (envOf qual scope L' f cdv)) (leaving (envOf qual scope L' f cdv) e) (fun _ s'' => R (.error e) s'') (fun e' s'' => R (.error e') s'') s')
        { s with heap := h₁, toks := tk })
    (hco : scope.isCoroutine = false) (hgen : scope.isGenerator = false) (hk : scope.kind = .function)
    (hcell : ∀ x ∈ scope.names, x.2 ≠ .cell) : codeAny (model prog w) A (.call (.ref f) args) R s := by
  obtain ⟨FG, BG, st, lv⟩ := groundX (R := R) B F (News.nil (h₀ := h₀) (h := s.heap) (L := L)) hA hf hke
  have XS : K.In s.heap := X₀.keeps F.keep
  refine codeAny_call_def (fd := fnOf name qual params body scope dV kV doc pm an cdv ct) (body := body) (binds := binds) hroom (XS _ _ ho) rfl (T.nolimit.keeps F.keep) (codeRec_of XS hcd) rfl hbind hcell hloc (fun h₁ hns hk₁ => ?_) hco hgen hk
  exact wpAny_mono (h s.heap.objs.size h₁ _ ⟨hns, fun b o e => hk₁ b o e, Nat.le_refl _⟩ News.nil BG XS (T.keeps F.keep)) (fun fl s' hl => lv _ _ hl) fun _ _ y => y
theorem code_baseC {env : Env} {outer : List Env} {R : Result → Shared → Prop} {name qual : Str} {params : Arguments} {body : List Stmt} {scope : Scope} {dV kV doc pm cdv ct oc : Value} {an od : Option Addr} {osl : Array (Option Value)} {f : Addr} {args : Args} {binds : List (Str × Value)}
    (B : Below A₀ base outer h₀) (F : Fr h₀ L s.heap m) (X₀ : K.In h₀) (T : Top p loose mean mg mb h₀) (hA : A.frames = some (env :: outer)) (hf : env.frame = some L) (hke : env.scope.kind = .function)
    (ho : K.lookup f = some ⟨oc, od, .func (fnOf name qual params body scope dV kV doc pm an cdv ct), osl⟩) (hcd : codeIn K cdv qual = true) (hroom : A.depth < recursionLimit)
    (hbind : BindsTo s (fnOf name qual params body scope dV kV doc pm an cdv ct) args binds) (hkind : (binds.all fun y => scope.names.lookup y.1 == some .local || scope.names.lookup y.1 == some .cell) = true)
    (hnd : ((cellsFrom 0 scope.names []).map (·.1)).Nodup)
    (h : ∀ L' h₁ tk cells, Fr s.heap L' h₁ (bindL (envOfC qual scope L' f cdv).kindOf binds fun _ => none) → News s.heap L' h₁ cells →
      CellsAre (bindC (envOfC qual scope L' f cdv).kindOf binds fun _ => none) (cellsFrom (L' + 1) scope.names []) cells → Below A base (env :: outer) s.heap → K.In s.heap → Top p loose mean mg mb s.heap →
      wpAny (model prog w) (A.deeper (envOfC qual scope L' f cdv)) (execs body (envOfC qual scope L' f cdv))
        (fun fl s' => LeaveK h₀ L m s.heap R (match fl with | .ret v => v | _ => .none) s')
        (fun e s' => wpAny (model prog w) (A.deeper (envOfC qual scope L' f cdv)) (leaving (envOfC qual scope L' f cdv) e) (fun _ s'' => R (.error e) s'') (fun e' s'' => R (.error e') s'') s')
        { s with heap := h₁, toks := tk })
    (hco : scope.isCoroutine = false) (hgen : scope.isGenerator = false) (hk : scope.kind = .function) : codeAny (model prog w) A (.call (.ref f) args) R s := by
  obtain ⟨FG, BG, st, lv⟩ := groundX (R := R) B F (News.nil (h₀ := h₀) (h := s.heap) (L := L)) hA hf hke
  have XS : K.In s.heap := X₀.keeps F.keep
  refine codeAny_call_function hroom (XS _ _ ho) rfl hco hgen rfl (codeRec_of XS hcd) (hbind _ _ _ _ ?_)
  refine wpAny_newFunctionEnv_cells hk (kindsX hkind _) fun env' he s' x => ?_
  subst he
  refine ⟨(T.nolimit.keeps F.keep).keeps x.toInCall.keep, codeAny_func ?_⟩
  obtain ⟨h₁, tk, rfl, _⟩ := x.done
  have hk₁ := x.toInCall.keep
  obtain ⟨cells, NC, Y⟩ := Cl.news (h₀ := s.heap) (Nat.le_refl _) fun n c hm => ⟨x.cell n c (lookup_of_mem_nodup (cellsFrom_names scope.names 0 (s.heap.objs.size + 1) [] [] rfl ▸ hnd) hm), x.above n c hm⟩
  exact wpAny_mono (h s.heap.objs.size h₁ tk cells ⟨x.toInCall.ns, fun b o e => hk₁ b o e, Nat.le_refl _⟩ (fun q hq => NC q hq) Y BG XS (T.keeps F.keep)) (fun fl s' hl => lv _ _ hl) fun _ _ y => y
end
/- what a call of the def at f gives, from any frame of any def: nothing that stood is turned -/
noncomputable def CtrB (w : World) (n : Nat) (f : Addr) (vs : List Value) (pre : Heap → Prop) (R : Heap → Heap → Value → Prop) : Prop :=
  ∀ (mean : ExcName → Option Value) (mg mb : Str → Option Value) (dp un : Nat) (gd : Option (List Code)) (cn : Str) (cs : Scope) (a : Addr) (ccd : Value) (cl : List (Str × Addr)) (outer : List Env) (A₀ : Around) (base h₀ : Heap) (L : Addr) (m : Str → Option Value) (s : Shared) (Q E : Value → Shared → Prop),
    Below A₀ base outer h₀ → Fr h₀ L s.heap m → Frag.In (hd.heap_39 w.params) h₀ → Top V0 loose0 mean mg mb h₀ → cs.kind = .function →
    dp + n < recursionLimit → un + 8 * n < cLine → pre s.heap →
    (∀ (v : Value) (h' : Heap) (tk' : Nat), (∀ b o, s.heap.get? b = some o → h'.get? b = some o) → R s.heap h' v → Q v { s with heap := h', toks := tk' }) →
    wpAny (model P0 w) (ktrTop dp un gd cn cs L a ccd cl outer) (call (.ref f) vs) Q E s
theorem CtrB.use {w : World} {n : Nat} {f : Addr} {vs : List Value} {pre : Heap → Prop} {R : Heap → Heap → Value → Prop}
  {mean : ExcName → Option Value} {mg mb : Str → Option Value} {dp un : Nat} {gd : Option (List Code)} {cn : Str} {cs : Scope} {a : Addr} {ccd : Value} {cl : List (Str × Addr)} {outer : List Env} {A₀ : Around} {base h₀ : Heap} {L : Addr} {m : Str → Option Value} {s : Shared} {Q E : Value → Shared → Prop}
  {news : List (Addr × Obj)}
  (C : CtrB w n f vs pre R) (B : Below A₀ base outer h₀) (F : Fr h₀ L s.heap m) (X : Frag.In (hd.heap_39 w.params) h₀) (N : News h₀ L s.heap news) (T : Top V0 loose0 mean mg mb h₀) (hk : cs.kind = .function)
  (hd : dp + n < recursionLimit) (hu : un + 8 * n < cLine) (hp : pre s.heap)
  (h : ∀ (v : Value) (h' : Heap) (tk' : Nat), Fr h₀ L h' m → News h₀ L h' news → R s.heap h' v → Q v { s with heap := h', toks := tk' }) :
    wpAny (model P0 w) (ktrTop dp un gd cn cs L a ccd cl outer) (call (.ref f) vs) Q E s :=
  C mean mg mb dp un gd cn cs a ccd cl outer A₀ base h₀ L m s Q E B F X T hk hd hu hp fun v h' tk' kp r => h v h' tk' (F.grownK kp) (N.grown kp) r
theorem CtrB.useE {w : World} {n : Nat} {f : Addr} {vs : List Value} {pre : Heap → Prop} {G : Tok → Value} {news : List (Addr × Obj)}
  {mean : ExcName → Option Value} {mg mb : Str → Option Value} {dp un : Nat} {gd : Option (List Code)} {cn : Str} {cs : Scope} {a : Addr} {ccd : Value} {cl : List (Str × Addr)} {outer : List Env} {A₀ : Around} {base h₀ : Heap} {L : Addr} {m : Str → Option Value} {s : Shared} {Q E : Value → Shared → Prop}
  (C : CtrB w n f vs pre (fun _ _ v => ∃ t, v = G t)) (B : Below A₀ base outer h₀) (F : Fr h₀ L s.heap m) (X : Frag.In (hd.heap_39 w.params) h₀) (N : News h₀ L s.heap news) (T : Top V0 loose0 mean mg mb h₀) (hk : cs.kind = .function) (hd : dp + n < recursionLimit) (hu : un + 8 * n < cLine) (hp : pre s.heap)
  (h : ∀ (t : Tok) (h' : Heap) (tk' : Nat), Fr h₀ L h' m → News h₀ L h' news → Q (G t) { s with heap := h', toks := tk' }) :
    wpAny (model P0 w) (ktrTop dp un gd cn cs L a ccd cl outer) (call (.ref f) vs) Q E s :=
  C.use B F X N T hk hd hu hp fun v h' tk' F' N' ⟨t, e⟩ => by subst e; exact h t h' tk' F' N'
/- what stands around a def's frame -/
structure KP where
  dp : Nat
  un : Nat
  gd : Option (List Code)
  fs : List Env
noncomputable def KP.top (κ : KP) : Around := { handled := none, depth := κ.dp, frames := some κ.fs, guards := κ.gd, units := κ.un }
/- a contract, from a walk of the body -/
theorem CtrB.body {w : World} {n : Nat} {f : Addr} {vs : List Value} {pre : Heap → Prop} {R : Heap → Heap → Value → Prop} {name qual : Str} {params : Arguments} {body : List Stmt} {scope : Scope} {dV kV doc pm cdv ct oc : Value} {an od : Option Addr} {osl : Array (Option Value)} (binds : List (Str × Value))
    (ho : (hd.heap_39 w.params).lookup f = some ⟨oc, od, .func (fnOf name qual params body scope dV kV doc pm an cdv ct), osl⟩) (hcd : codeIn (hd.heap_39 w.params) cdv qual = true)
    (hbind : ∀ s, BindsTo s (fnOf name qual params body scope dV kV doc pm an cdv ct) ⟨vs, []⟩ binds) (hloc : ∀ y ∈ binds, scope.names.lookup y.1 = some .local) (hn : 1 ≤ n)
    (hco : scope.isCoroutine = false) (hgen : scope.isGenerator = false) (hk : scope.kind = .function) (hcell : ∀ x ∈ scope.names, x.2 ≠ .cell)
    (h : ∀ (κ : KP) (mean : ExcName → Option Value) (mg mb : Str → Option Value) (base : Heap) (s : Shared) (L' : Addr) (h₁ : Heap) (tk : Nat) (Q : Flow → Shared → Prop) (E : Value → Shared → Prop), κ.top.depth + n < recursionLimit → κ.top.units + 8 * n < cLine → pre s.heap →
      Fr s.heap L' h₁ (fun y => binds.reverse.lookup y) → Below κ.top base κ.fs s.heap → Frag.In (hd.heap_39 w.params) s.heap → Top V0 loose0 mean mg mb s.heap →
      (∀ v h' tk' m', Fr s.heap L' h' m' → R s.heap h' v → Q (.ret v) { s with heap := h', toks := tk' }) →
      wpAny (model P0 w) (κ.top.deeper (envOf qual scope L' f cdv)) (execs body (envOf qual scope L' f cdv)) Q E { s with heap := h₁, toks := tk }) : CtrB w n f vs pre R := by
  intro mean mg mb dp un gd cn cs a ccd cl outer A₀ base h₀ L m s Q E B F X T hkk hdp hu hp hret
  refine wpAny_call (code_base B F X T rfl rfl hkk ho hcd (by show dp < _; omega) (hbind _) hloc (fun L' h₁ tk F' _ B' X' T' => ?_) hco hgen hk hcell)
  exact h ⟨dp, un, gd, _⟩ mean mg mb base s L' h₁ tk _ _ hdp hu hp F' B' X' T' fun v h' tk' m' F9 r => leaveK_ F9 (News.nil (h₀ := s.heap) (h := h') (L := L')) fun _ _ => hret v h' tk' F9.keep r
theorem CtrB.bodyC {w : World} {n : Nat} {f : Addr} {vs : List Value} {pre : Heap → Prop} {R : Heap → Heap → Value → Prop} {name qual : Str} {params : Arguments} {body : List Stmt} {scope : Scope} {dV kV doc pm cdv ct oc : Value} {an od : Option Addr} {osl : Array (Option Value)} (binds : List (Str × Value))
    (ho : (hd.heap_39 w.params).lookup f = some ⟨oc, od, .func (fnOf name qual params body scope dV kV doc pm an cdv ct), osl⟩) (hcd : codeIn (hd.heap_39 w.params) cdv qual = true)
    (hbind : ∀ s, BindsTo s (fnOf name qual params body scope dV kV doc pm an cdv ct) ⟨vs, []⟩ binds) (hkind : (binds.all fun y => scope.names.lookup y.1 == some .local || scope.names.lookup y.1 == some .cell) = true) (hn : 1 ≤ n)
    (hnd : ((cellsFrom 0 scope.names []).map (·.1)).Nodup) (hco : scope.isCoroutine = false) (hgen : scope.isGenerator = false) (hk : scope.kind = .function)
    (h : ∀ (κ : KP) (mean : ExcName → Option Value) (mg mb : Str → Option Value) (base : Heap) (s : Shared) (L' : Addr) (h₁ : Heap) (tk : Nat) (cells : List (Addr × Obj)) (Q : Flow → Shared → Prop) (E : Value → Shared → Prop), κ.top.depth + n < recursionLimit → κ.top.units + 8 * n < cLine → pre s.heap →
      Fr s.heap L' h₁ (bindL (envOfC qual scope L' f cdv).kindOf binds fun _ => none) → News s.heap L' h₁ cells → CellsAre (bindC (envOfC qual scope L' f cdv).kindOf binds fun _ => none) (cellsFrom (L' + 1) scope.names []) cells → Below κ.top base κ.fs s.heap → Frag.In (hd.heap_39 w.params) s.heap → Top V0 loose0 mean mg mb s.heap →
      (∀ v h' tk' m', Fr s.heap L' h' m' → R s.heap h' v → Q (.ret v) { s with heap := h', toks := tk' }) →
      wpAny (model P0 w) (κ.top.deeper (envOfC qual scope L' f cdv)) (execs body (envOfC qual scope L' f cdv)) Q E { s with heap := h₁, toks := tk }) : CtrB w n f vs pre R := by
  intro mean mg mb dp un gd cn cs a ccd cl outer A₀ base h₀ L m s Q E B F X T hkk hdp hu hp hret
  refine wpAny_call (code_baseC B F X T rfl rfl hkk ho hcd (by show dp < _; omega) (hbind _) hkind hnd (fun L' h₁ tk cells F' N' Y' B' X' T' => ?_) hco hgen hk)
  exact h ⟨dp, un, gd, _⟩ mean mg mb base s L' h₁ tk cells _ _ hdp hu hp F' N' Y' B' X' T' fun v h' tk' m' F9 r => leaveK_ F9 (News.nil (h₀ := s.heap) (h := h') (L := L')) fun _ _ => hret v h' tk' F9.keep r
/- a state of a def's frame -/
inductive LSt (L : Addr) (R : (Str → Option Value) → List (Addr × Obj) → Prop) (s : Shared) : Shared → Prop
  | mk (h : Heap) (tk : Nat) (m : Str → Option Value) (Z : List (Addr × Obj)) (F : Fr s.heap L h m) (N : News s.heap L h Z) (r : R m Z) : LSt L R s { s with heap := h, toks := tk }
theorem LSt.all {L : Addr} {R : (Str → Option Value) → List (Addr × Obj) → Prop} {s : Shared} {P : Shared → Prop} (k : ∀ (h : Heap) (tk : Nat) (m : Str → Option Value) (Z : List (Addr × Obj)), Fr s.heap L h m → News s.heap L h Z → R m Z → P { s with heap := h, toks := tk }) : ∀ s', LSt L R s s' → P s' :=
  fun _ ⟨h, tk, m, Z, F, N, r⟩ => k h tk m Z F N r
/- the first n statements, with a written middle -/
theorem W_part {M : Model} {A : Around} {env : Env} {Q : Flow → Shared → Prop} {E : Value → Shared → Prop} (P : Shared → Prop) (n : Nat) {l : List Stmt} {s : Shared}
    (h1 : ∀ Q' : Flow → Shared → Prop, (∀ s', P s' → Q' .next s') → (∀ v s', Q (.ret v) s' → Q' (.ret v) s') → wpAny M A (execs (l.take n) env) Q' E s)
    (h2 : ∀ s', P s' → wpAny M A (execs (l.drop n) env) Q E s') : wpAny M A (execs l env) Q E s := fun Γ p hΓ => by
  have key : ∀ (n : Nat) (l : List Stmt) (s : Shared) p, wp M Γ (execs (l.take n) env) (fun f _ s' => match f with | .next => P s' | f => Q f s') (fun e _ s' => E e s') p s →
      (∀ s', P s' → wpAny M A (execs (l.drop n) env) Q E s') → wp M Γ (execs l env) (fun f _ s' => Q f s') (fun e _ s' => E e s') p s := by
    intro n
    induction n with
    | zero => exact fun l s p h1 h2 => h2 s h1 Γ p hΓ
    | succ n ih =>
      intro l s p h1 h2
      cases l with
      | nil => exact h2 s h1 Γ p hΓ
      | cons a l =>
        rw [List.take_succ_cons, execs_cons, Sem.wp_bind'] at h1
        rw [execs_cons, Sem.wp_bind']
        refine Sem.wp_mono M Γ _ (fun f p' s' h' => ?_) (fun _ _ _ h' => h') _ _ h1
        cases f <;> first | exact ih l _ _ h' h2 | exact h'
  exact key n l s p (h1 (fun f s' => match f with | .next => P s' | f => Q f s') (fun _ h => h) (fun _ _ h => h) Γ p hΓ) h2
/- a new tuple of three floats -/
inductive NewT3 (q : UInt64 × UInt64 × UInt64) (h h' : Heap) : Value → Prop
  | mk (x : Addr) (u1 u2 u3 : Tok) (h1 : h.get? x = none) (h2 : h'.get? x = some { cls := .type "tuple", data := .seq #[.float q.1 u1, .float q.2.1 u2, .float q.2.2 u3] }) : NewT3 q h h' (.ref x)
theorem NewT3.of {h₀ h' : Heap} {L D : Addr} {Z : List (Addr × Obj)} {A B C : UInt64} {q : UInt64 × UInt64 × UInt64} {u1 u2 u3 : Tok} (N : News h₀ L h' ((D, { cls := .type "tuple", data := .seq #[.float A u1, .float B u2, .float C u3] }) :: Z)) (e : (A, B, C) = q) : NewT3 q h₀ h' (.ref D) := by
  subst e; exact ⟨D, u1, u2, u3, (N _ (.head _)).2.2, (N _ (.head _)).1⟩
theorem CtrB.use3 {w : World} {n : Nat} {f : Addr} {vs : List Value} {q : UInt64 × UInt64 × UInt64}
  {mean : ExcName → Option Value} {mg mb : Str → Option Value} {dp un : Nat} {gd : Option (List Code)} {cn : Str} {cs : Scope} {a : Addr} {ccd : Value} {cl : List (Str × Addr)} {outer : List Env} {A₀ : Around} {base h₀ : Heap} {L : Addr} {m : Str → Option Value} {s : Shared} {Q E : Value → Shared → Prop}
  {news : List (Addr × Obj)}
  (C : CtrB w n f vs (fun _ => True) (NewT3 q)) (B : Below A₀ base outer h₀) (F : Fr h₀ L s.heap m) (X : Frag.In (hd.heap_39 w.params) h₀) (N : News h₀ L s.heap news) (T : Top V0 loose0 mean mg mb h₀) (hk : cs.kind = .function)
  (hd : dp + n < recursionLimit) (hu : un + 8 * n < cLine)
  (h : ∀ x u1 u2 u3 (h' : Heap) (tk' : Nat), Fr h₀ L h' m → News h₀ L h' ((x, { cls := .type "tuple", data := .seq #[.float q.1 u1, .float q.2.1 u2, .float q.2.2 u3] }) :: news) → (∀ p ∈ news, p.1 ≠ x) → Q (.ref x) { s with heap := h', toks := tk' }) :
    wpAny (model P0 w) (ktrTop dp un gd cn cs L a ccd cl outer) (call (.ref f) vs) Q E s :=
  C mean mg mb dp un gd cn cs a ccd cl outer A₀ base h₀ L m s Q E B F X T hk hd hu trivial fun v h' tk' kp r => by
    obtain ⟨x, u1, u2, u3, h1, h2⟩ := r
    have ne : ∀ y o, s.heap.get? y = some o → y ≠ x := fun y o e q => by rw [q, h1] at e; cases e
    refine h x u1 u2 u3 h' tk' (F.grownK kp) (fun p hp => ?_) (fun p hp => ne _ _ (N p hp).1)
    rcases List.mem_cons.mp hp with rfl | hp
    · refine ⟨h2, Ne.symm (by obtain ⟨_, _, _, e, _⟩ := F.ns; exact ne _ _ e), ?_⟩
      cases e : h₀.get? x with
      | none => rfl
      | some o => rw [F.keep _ _ e] at h1; cases h1
    · exact N.grown kp p hp
end Mine
end
section
open PySem PySem.W PyProof.Rows PySem.Spec PySem.Calls
set_option maxRecDepth 100000
set_option maxHeartbeats 0
namespace Mine
theorem pad_of_M1 : True := by
  w_top off
  trivial
theorem fill : (hd.heap_39 = hd.heap_39) ∧ (PySem.Challenge.rw_zo0002_01 = PySem.Challenge.rw_zo0002_01) := by
  k_fill
  exact ⟨rfl, rfl⟩
theorem v_ok (w : World) (m1 m2 hue : UInt64) (t1 t2 t3 : Tok) :
    CtrB w 1 52 [.float m1 t1, .float m2 t2, .float hue t3] (fun _ => True) (fun _ _ v => ∃ t, v = .float (vF m1 m2 hue) t) := by
  refine' CtrB.body [(Str.ofString "m1", .float m1 t1), (Str.ofString "m2", .float m2 t2), (Str.ofString "hue", .float hue t3)] ?k6 ?k7 ?k9 ?kB (Nat.le_refl _) ?c2 ?c3 ?c4 ?c5 ?_
  case k6 => k_is
  case k7 => k_is
  case k9 => intro _; exact BindsTo.of_eq rfl
  case kB => exact locs rfl
  case c2 => exact rfl
  case c3 => exact rfl
  case c4 => exact rfl
  case c5 => decide
  intro κ mean mg mb base s L' h' tk qk ek hdp hu _ F' B' X' T' hret
  have N' : News s.heap L' h' [] := fun _ h => nomatch h
  k_steps
  all_goals (refine hret _ _ _ _ (by k_asm) ⟨_, congrArg (fun x => Value.float x _) ?_⟩)
  all_goals (clear hret; unfold vF; simp only [*, if_true, if_false, Bool.false_eq_true])
end Mine
end
section
open PySem PySem.W PyProof.Rows PySem.Spec PySem.Calls PySem.Flt
set_option maxRecDepth 100000
set_option maxHeartbeats 0
namespace Mine
section
variable {prog : Program} {w : World} {A : Around} {E : Value → Shared → Prop} {s : Shared} {Q : Value → Shared → Prop} {x y z : UInt64} {t u v : Tok} {h₀ : Heap} {L : Addr} {m : Str → Option Value} {news : List (Addr × Obj)}
theorem max_three_f (hh : A.handled = none) (F : Fr h₀ L s.heap m) (N : News h₀ L s.heap news)
    (h : ∀ h' tk q, Fr h₀ L h' m → News h₀ L h' news → Q (.float (max3F x y z) q) { s with heap := h', toks := tk }) :
    wpAny (model prog w) A (call (.builtin "max") [.float x t, .float y u, .float z v]) Q E s := by
  have hT : (s.heap.push { cls := .type "tuple", data := .seq #[.float x t, .float y u, .float z v] }).IsTuple s.heap.objs.size #[.float x t, .float y u, .float z v] := ⟨_, Heap.get?_push_size _ rfl, rfl, 0, rfl⟩
  refine call_max_three (wpAny_pyIter_tuple hT ?_)
  have hsz : (s.heap.push { cls := .type "tuple", data := .seq #[.float x t, .float y u, .float z v] }).objs.size = s.heap.objs.size + 1 := Heap.size_push ..
  refine ⟨_, [_, s.heap.objs.size], [_], _, _, _, _, rfl, Walks.tuple (A := A.in1) hh _ s.heap.objs.size (by rw [hsz]; exact Nat.ne_of_lt (Nat.lt_succ_self _)) #[.float x t, .float y u, .float z v],
    ⟨⟨_, Heap.get?_push_size _ rfl, rfl, rfl⟩, hT.push _⟩, fun c hc => ?_, by simp, cmpOf_gt #[.float x t, .float y u, .float z v] (by simp [NumV.float]), fun q h' tk hP hk => ?_⟩
  · show c < ((s.heap.push _).push _).objs.size
    rw [Heap.size_push, hsz]
    rcases List.mem_cons.mp hc with rfl | hc
    · rw [hsz]; exact Nat.lt_succ_self _
    · rcases List.mem_cons.mp hc with rfl | hc
      · exact Nat.lt_succ_of_lt (Nat.lt_succ_self _)
      · cases hc
  · have hold : ∀ c o, s.heap.get? c = some o → h'.get? c = some o := fun c o e => by
      refine hk c o (fun hm => ?_) (Heap.get?_push_of_some _ (Heap.get?_push_of_some _ e))
      rcases List.mem_cons.mp hm with e1 | hm
      · have := Heap.lt_size e; rw [e1, hsz] at this; exact Nat.lt_irrefl _ (Nat.lt_of_succ_lt this)
      · cases hm
    have hv : ∃ k, q = .float (max3F x y z) k := by
      unfold max3F ltF
      cases c1 : Float64.cmp x y == some .lt <;> cases c2 : Float64.cmp y z == some .lt <;> cases c3 : Float64.cmp x z == some .lt <;> simp [argBest, ltV, c1, c2, c3] at hP ⊢ <;> exact ⟨_, hP.symm⟩
    obtain ⟨k, rfl⟩ := hv
    exact h h' tk k (F.grownK hold) (N.grown hold)
theorem min_three_f (hh : A.handled = none) (F : Fr h₀ L s.heap m) (N : News h₀ L s.heap news)
    (h : ∀ h' tk q, Fr h₀ L h' m → News h₀ L h' news → Q (.float (min3F x y z) q) { s with heap := h', toks := tk }) :
    wpAny (model prog w) A (call (.builtin "min") [.float x t, .float y u, .float z v]) Q E s := by
  have hT : (s.heap.push { cls := .type "tuple", data := .seq #[.float x t, .float y u, .float z v] }).IsTuple s.heap.objs.size #[.float x t, .float y u, .float z v] := ⟨_, Heap.get?_push_size _ rfl, rfl, 0, rfl⟩
  refine call_min_three (wpAny_pyIter_tuple hT ?_)
  have hsz : (s.heap.push { cls := .type "tuple", data := .seq #[.float x t, .float y u, .float z v] }).objs.size = s.heap.objs.size + 1 := Heap.size_push ..
  refine ⟨_, [_, s.heap.objs.size], [_], _, _, _, _, rfl, Walks.tuple (A := A.in1) hh _ s.heap.objs.size (by rw [hsz]; exact Nat.ne_of_lt (Nat.lt_succ_self _)) #[.float x t, .float y u, .float z v],
    ⟨⟨_, Heap.get?_push_size _ rfl, rfl, rfl⟩, hT.push _⟩, fun c hc => ?_, by simp, cmpOf_lt #[.float x t, .float y u, .float z v] (by simp [NumV.float]), fun q h' tk hP hk => ?_⟩
  · show c < ((s.heap.push _).push _).objs.size
    rw [Heap.size_push, hsz]
    rcases List.mem_cons.mp hc with rfl | hc
    · rw [hsz]; exact Nat.lt_succ_self _
    · rcases List.mem_cons.mp hc with rfl | hc
      · exact Nat.lt_succ_of_lt (Nat.lt_succ_self _)
      · cases hc
  · have hold : ∀ c o, s.heap.get? c = some o → h'.get? c = some o := fun c o e => by
      refine hk c o (fun hm => ?_) (Heap.get?_push_of_some _ (Heap.get?_push_of_some _ e))
      rcases List.mem_cons.mp hm with e1 | hm
      · have := Heap.lt_size e; rw [e1, hsz] at this; exact Nat.lt_irrefl _ (Nat.lt_of_succ_lt this)
      · cases hm
    have hv : ∃ k, q = .float (min3F x y z) k := by
      unfold min3F ltF
      cases c1 : Float64.cmp y x == some .lt <;> cases c2 : Float64.cmp z y == some .lt <;> cases c3 : Float64.cmp z x == some .lt <;> simp [argBest, ltV, c1, c2, c3] at hP ⊢ <;> exact ⟨_, hP.symm⟩
    obtain ⟨k, rfl⟩ := hv
    exact h h' tk k (F.grownK hold) (N.grown hold)
end
end Mine
end
section
open PySem PySem.W PyProof.Rows PySem.Spec PySem.Calls PySem.Flt
set_option maxRecDepth 100000
set_option maxHeartbeats 0
namespace Mine
theorem pad_of_M2 : True := by
  w_top off
  trivial
theorem fill2 : (hd.heap_39 = hd.heap_39) ∧ (PySem.Challenge.rw_zo0002_01 = PySem.Challenge.rw_zo0002_01) := by
  k_fill
  exact ⟨rfl, rfl⟩
local macro_rules | `(tactic| walk_at "V") => `(tactic| first | with_reducible assumption | (refine (if_neg (by decide)).trans ?_; walk_at "V") | rfl)
theorem truediv_nz {prog : Program} {w : World} {A : Around} {E : Value → Shared → Prop} {s : Shared} {Q : Value → Shared → Prop} {a b : UInt64} {t u : Tok} (hA : A.handled = none) (hz : Float64.isZero b = false) (h : Q (.float (Float64.div a b) s.toks) { s with toks := s.toks + 1 }) :
    wpAny (model prog w) A (binaryOp .Div (.float a t) (.float b u)) Q E s := truediv_float_or hA (fun e => by rw [hz] at e; cases e) fun _ => h
local macro_rules | `(tactic| walk_at $k:str) => tbl [("call builtin:max", true, [(``max_three_f, "E A A ?")]), ("call builtin:min", true, [(``min_three_f, "E A A ?")]), ("eval Name", false, [(``nameX_L, "A V ? R R")]), ("binaryOp Div float float", true, [(``truediv_nz, "R EST ?")])] k
/- where a frame stands -/
inductive R1 (r g b : UInt64) (m : Str → Option Value) : Prop
  | mk (e : eqF (min3F r g b) (max3F r g b) = false) (u1 u2 u3 u4 u5 u6 u7 u8 : Tok) (f1 : m (Str.ofString "r") = some (.float r u1)) (f2 : m (Str.ofString "g") = some (.float g u2)) (f3 : m (Str.ofString "b") = some (.float b u3)) (f4 : m (Str.ofString "maxc") = some (.float (max3F r g b) u4))
    (f5 : m (Str.ofString "minc") = some (.float (min3F r g b) u5)) (f6 : m (Str.ofString "sumc") = some (.float (Float64.add (max3F r g b) (min3F r g b)) u6)) (f7 : m (Str.ofString "rangec") = some (.float (rngF r g b) u7)) (f8 : m (Str.ofString "l") = some (.float (lumF r g b) u8)) : R1 r g b m
inductive R2 (r g b M R l S : UInt64) (m : Str → Option Value) : Prop
  | mk (u1 u2 u3 u4 u7 u8 u9 : Tok) (f1 : m (Str.ofString "r") = some (.float r u1)) (f2 : m (Str.ofString "g") = some (.float g u2)) (f3 : m (Str.ofString "b") = some (.float b u3)) (f4 : m (Str.ofString "maxc") = some (.float M u4))
    (f7 : m (Str.ofString "rangec") = some (.float R u7)) (f8 : m (Str.ofString "l") = some (.float l u8)) (f9 : m (Str.ofString "s") = some (.float S u9)) : R2 r g b M R l S m
inductive R3 (r g M l S R G B : UInt64) (m : Str → Option Value) : Prop
  | mk (u1 u2 u4 u8 u9 u5 u6 u7 : Tok) (f1 : m (Str.ofString "r") = some (.float r u1)) (f2 : m (Str.ofString "g") = some (.float g u2)) (f4 : m (Str.ofString "maxc") = some (.float M u4)) (f8 : m (Str.ofString "l") = some (.float l u8)) (f9 : m (Str.ofString "s") = some (.float S u9))
    (f5 : m (Str.ofString "rc") = some (.float R u5)) (f6 : m (Str.ofString "gc") = some (.float G u6)) (f7 : m (Str.ofString "bc") = some (.float B u7)) : R3 r g M l S R G B m
inductive R4 (l S H : UInt64) (m : Str → Option Value) : Prop
  | mk (u8 u9 u5 : Tok) (f8 : m (Str.ofString "l") = some (.float l u8)) (f9 : m (Str.ofString "s") = some (.float S u9)) (f5 : m (Str.ofString "h") = some (.float H u5)) : R4 l S H m
theorem rgb_ok (w : World) (r g b : UInt64) (t1 t2 t3 : Tok) (hz : NoZ r g b) :
    CtrB w 1 38 [.float r t1, .float g t2, .float b t3] (fun _ => True) (NewT3 (hlsF r g b)) := by
  refine' CtrB.body [(Str.ofString "r", .float r t1), (Str.ofString "g", .float g t2), (Str.ofString "b", .float b t3)] ?k6 ?k7 ?k9 ?kB (Nat.le_refl _) ?c2 ?c3 ?c4 ?c5 ?_
  case k6 => k_is
  case k7 => k_is
  case k9 => intro _; exact BindsTo.of_eq rfl
  case kB => exact locs rfl
  case c2 => exact rfl
  case c3 => exact rfl
  case c4 => exact rfl
  case c5 => decide
  intro κ mean mg mb base s L' h' tk qk ek hdp hu _ F' B' X' T' hret
  have hq : ∀ (D : Addr) (A9 B9 C9 : UInt64) (u1 u2 u3 : Tok) Z h' tk' m', Fr s.heap L' h' m' → News s.heap L' h' ((D, { cls := .type "tuple", data := .seq #[.float A9 u1, .float B9 u2, .float C9 u3] }) :: Z) → (A9, B9, C9) = hlsF r g b → qk (.ret (.ref D)) { s with heap := h', toks := tk' } := by
    intro D A9 B9 C9 u1 u2 u3 Z h9 tk9 m9 F9 N9 e9
    exact hret _ _ _ _ F9 (NewT3.of N9 e9)
  clear hret
  refine W_part (LSt L' (fun m _ => R1 r g b m) s) 6 ?p1 ?_
  case p1 =>
    intro Qs hQs hQr
    (try dsimp only [List.take])
    have N' : News s.heap L' h' [] := fun _ h => nomatch h
    k_steps
    trace_state
    · refine hQr _ _ (hq _ _ _ _ _ _ _ _ _ _ _ (by k_asm) (by k_asm) ?_)
      rename (_ == _) = true => e9
      exact (if_pos e9).symm
    · rename (_ == _) = false => e9
      rename Fr s.heap _ _ _ => F9
      rename News s.heap _ _ _ => N9
      exact hQs _ ⟨_, _, _, _, F9, N9, e9, _, _, _, _, _, _, _, _, rfl, rfl, rfl, rfl, rfl, rfl, rfl, rfl⟩
  clear F'
  refine LSt.all fun h tk m1 Z F2 N2 => ?_
  replace N2 : News s.heap L' h [] := fun _ h => nomatch h
  rintro ⟨e9, u1, u2, u3, u4, u5, u6, u7, u8, f1, f2, f3, f4, f5, f6, f7, f8⟩
  obtain ⟨z1, z2, z3⟩ := hz e9
  have eh : hlsF r g b = (hueF r g b, lumF r g b, satF r g b) := if_neg (by rw [e9]; exact Bool.false_ne_true)
  rw [eh] at hq
  refine W_part (LSt L' (fun m _ => R2 r g b (max3F r g b) (rngF r g b) (lumF r g b) (satF r g b) m) s) 1 ?p2 ?_
  case p2 =>
    intro Qs hQs hQr
    clear hQr hq z1
    (try dsimp only [List.take, List.drop])
    k_steps
    all_goals
      rename (_ || _) = _ => e8
      rename Fr s.heap _ _ _ => F9
      rename News s.heap _ _ _ => N9
      refine hQs _ ⟨_, _, _, _, F9, N9, _, _, _, _, _, _, _, (if_neg (by decide)).trans f1, (if_neg (by decide)).trans f2, (if_neg (by decide)).trans f3, (if_neg (by decide)).trans f4, (if_neg (by decide)).trans f7, (if_neg (by decide)).trans f8, (if_pos rfl).trans (congrArg (fun q => some (Value.float q _)) ?_)⟩
    · exact (if_pos e8).symm
    · exact (if_neg (fun q => Bool.false_ne_true (e8.symm.trans q))).symm
  clear F2 N2 f1 f2 f3 f4 f5 f6 f7 f8 z2 z3 e9 eh
  refine LSt.all fun h tk m1 Z F2 N2 => ?_
  replace N2 : News s.heap L' h [] := fun _ h => nomatch h
  rintro ⟨u1, u2, u3, u4, u7, u8, u9, f1, f2, f3, f4, f7, f8, f9⟩
  generalize satF r g b = S at *
  generalize lumF r g b = l at *
  refine W_part (LSt L' (fun m _ => R3 r g (max3F r g b) l S (partF r g b r) (partF r g b g) (partF r g b b) m) s) 3 ?p3 ?_
  case p3 =>
    intro Qs hQs hQr
    clear hQr hq
    (try dsimp only [List.take, List.drop])
    k_steps
    rename Fr s.heap _ _ _ => F9
    rename News s.heap _ _ _ => N9
    exact hQs _ ⟨_, _, _, _, F9, N9, _, _, _, _, _, _, _, _, f1, f2, f4, f8, f9, rfl, rfl, rfl⟩
  clear F2 N2 f1 f2 f3 f4 f7 f8 f9 z1
  refine LSt.all fun h tk m1 Z F2 N2 => ?_
  replace N2 : News s.heap L' h [] := fun _ h => nomatch h
  rintro ⟨u1, u2, u4, u8, u9, u5, u6, u7, f1, f2, f4, f8, f9, f5, f6, f7⟩
  have eh : rawHueF r g b = if eqF r (max3F r g b) = true then Float64.sub (partF r g b b) (partF r g b g) else if eqF g (max3F r g b) = true then Float64.sub (Float64.add 4611686018427387904 (partF r g b r)) (partF r g b b) else Float64.sub (Float64.add 4616189618054758400 (partF r g b g)) (partF r g b r) := rfl
  generalize max3F r g b = M at *
  generalize partF r g b r = R9 at *
  generalize partF r g b g = G9 at *
  generalize partF r g b b = B9 at *
  refine W_part (LSt L' (fun m _ => R4 l S (rawHueF r g b) m) s) 1 ?p4 ?_
  case p4 =>
    intro Qs hQs hQr
    clear hQr hq
    (try dsimp only [List.take, List.drop])
    rw [eh] at hQs
    k_steps
    all_goals
      rename Fr s.heap _ _ _ => F9
      rename News s.heap _ _ _ => N9
      refine hQs _ ⟨_, _, _, _, F9, N9, _, _, _, (if_neg (by decide)).trans f8, (if_neg (by decide)).trans f9, (if_pos rfl).trans (congrArg (fun q => some (Value.float q _)) ?_)⟩
    · rename (_ == _) = true => e8
      exact (if_pos e8).symm
    · rename (Float64.cmp r M == _) = false => e7
      rename (_ == _) = true => e8
      exact ((if_neg (fun q => Bool.false_ne_true (e7.symm.trans q))).trans (if_pos e8)).symm
    · rename (Float64.cmp g M == _) = false => e7
      rename (Float64.cmp r M == _) = false => e8
      exact ((if_neg (fun q => Bool.false_ne_true (e8.symm.trans q))).trans (if_neg (fun q => Bool.false_ne_true (e7.symm.trans q)))).symm
  clear F2 N2 f1 f2 f4 f8 f9 f5 f6 f7 eh
  refine LSt.all fun h tk m1 Z F2 N2 => ?_
  replace N2 : News s.heap L' h [] := fun _ h => nomatch h
  rintro ⟨u8, u9, u5, f8, f9, f5⟩
  have eh : hueF r g b = (Float64.divmod (Float64.div (rawHueF r g b) 4618441417868443648) 4607182418800017408).snd := rfl
  generalize rawHueF r g b = H9 at *
  (try dsimp only [List.take, List.drop])
  k_steps
  exact hq _ _ _ _ _ _ _ _ _ _ _ (by k_asm) (by k_asm) (by rw [eh])
end Mine
end
section
open PySem PySem.W PyProof.Rows PySem.Spec PySem.Calls PySem.Flt
set_option maxRecDepth 100000
set_option maxHeartbeats 0
namespace Mine
theorem pad_of_M3 : True := by
  w_top off
  trivial
local macro_rules | `(tactic| walk_at "pad pad") => `(tactic| fail)
theorem fill3 : (hd.heap_39 = hd.heap_39) ∧ (PySem.Challenge.rw_zo0002_01 = PySem.Challenge.rw_zo0002_01) := by
  k_fill
  exact ⟨rfl, rfl⟩
theorem v_use {w : World} {news : List (Addr × Obj)} {m1 m2 hue : UInt64} {t1 t2 t3 : Tok}
  {mean : ExcName → Option Value} {mg mb : Str → Option Value} {dp un : Nat} {gd : Option (List Code)} {cn : Str} {cs : Scope} {a : Addr} {ccd : Value} {cl : List (Str × Addr)} {outer : List Env} {A₀ : Around} {base h₀ : Heap} {L : Addr} {m : Str → Option Value} {s : Shared} {Q E : Value → Shared → Prop}
  (B : Below A₀ base outer h₀) (F : Fr h₀ L s.heap m) (X : Frag.In (hd.heap_39 w.params) h₀) (N : News h₀ L s.heap news) (T : Top V0 loose0 mean mg mb h₀) (hk : cs.kind = .function) (hd : dp + 1 < recursionLimit) (hu : un + 8 * 1 < cLine)
  (h : ∀ (t : Tok) (h' : Heap) (tk' : Nat), Fr h₀ L h' m → News h₀ L h' news → Q (.float (vF m1 m2 hue) t) { s with heap := h', toks := tk' }) :
    wpAny (model P0 w) (ktrTop dp un gd cn cs L a ccd cl outer) (call (.ref 52) [.float m1 t1, .float m2 t2, .float hue t3]) Q E s :=
  (v_ok w m1 m2 hue t1 t2 t3).useE B F X N T hk hd hu trivial h
local macro_rules | `(tactic| walk_at "V") => `(tactic| first | with_reducible assumption | (refine (if_neg (by decide)).trans ?_; walk_at "V") | rfl)
local macro_rules | `(tactic| walk_at $k:str) => tbl [("call ref", true, [(``v_use, "A A A A A ES r u ?")]), ("eval Name", false, [(``nameX_L, "A V ? R R"), (``nameX_K, "A A A I ? R R")])] k
/- where the frame stands -/
inductive R5 (h l S m2 : UInt64) (m : Str → Option Value) : Prop
  | mk (e : eqF S 0 = false) (u1 u2 u3 u4 : Tok) (f1 : m (Str.ofString "h") = some (.float h u1)) (f2 : m (Str.ofString "l") = some (.float l u2)) (f3 : m (Str.ofString "s") = some (.float S u3)) (f4 : m (Str.ofString "m2") = some (.float m2 u4)) : R5 h l S m2 m
theorem hls_ok (w : World) (h l q : UInt64) (t1 t2 t3 : Tok) :
    CtrB w 2 45 [.float h t1, .float l t2, .float q t3] (fun _ => True) (NewT3 (backF h l q)) := by
  refine' CtrB.body [(Str.ofString "h", .float h t1), (Str.ofString "l", .float l t2), (Str.ofString "s", .float q t3)] ?k6 ?k7 ?k9 ?kB (by decide) ?c2 ?c3 ?c4 ?c5 ?_
  case k6 => k_is
  case k7 => k_is
  case k9 => intro _; exact BindsTo.of_eq rfl
  case kB => exact locs rfl
  case c2 => exact rfl
  case c3 => exact rfl
  case c4 => exact rfl
  case c5 => decide
  intro κ mean mg mb base s L' h' tk qk ek hdp hu _ F' B' X' T' hret
  have N' : News s.heap L' h' [] := fun _ h => nomatch h
  refine W_part (LSt L' (fun m _ => R5 h l q (m2F l q) m) s) 2 ?p1 ?_
  case p1 =>
    intro Qs hQs hQr
    (try dsimp only [List.take])
    k_steps
    · rename (_ == _) = true => e9
      exact hQr _ _ (hret _ _ _ _ (by k_asm) (NewT3.of (by k_asm) (if_pos e9).symm))
    all_goals
      rename (_ || _) = _ => e8
      rename (_ == _) = false => e9
      rename Fr s.heap _ _ _ => F9
      rename News s.heap _ _ _ => N9
      refine hQs _ ⟨_, _, _, _, F9, N9, e9, _, _, _, _, rfl, rfl, rfl, (if_pos rfl).trans (congrArg (fun q => some (Value.float q _)) ?_)⟩
    · exact (if_pos e8).symm
    · exact (if_neg (fun q => Bool.false_ne_true (e8.symm.trans q))).symm
  clear F' N'
  refine LSt.all fun h' tk m1 Z F2 N2 => ?_
  replace N2 : News s.heap L' h' [] := fun _ h => nomatch h
  rintro ⟨e9, u1, u2, u3, u4, f1, f2, f3, f4⟩
  have eb : backF h l q = (vF (m1F l q) (m2F l q) (Float64.add h 4599676419421066581), vF (m1F l q) (m2F l q) h, vF (m1F l q) (m2F l q) (Float64.sub h 4599676419421066581)) := if_neg (by rw [e9]; exact Bool.false_ne_true)
  have em : m1F l q = Float64.sub (Float64.mul 4611686018427387904 l) (m2F l q) := rfl
  rw [eb, em] at hret
  clear eb em e9
  generalize m2F l q = m2 at *
  (try dsimp only [List.drop])
  k_steps
  exact hret _ _ _ _ (by k_asm) (NewT3.of (by k_asm) rfl)
end Mine
end
section
open PySem PySem.W PyProof.Rows PySem.Spec PySem.Calls PySem.Flt
set_option maxRecDepth 100000
set_option maxHeartbeats 0
namespace Mine
section
variable {prog : Program} {w : World} {A : Around} {E : Value → Shared → Prop} {s : Shared} {h₀ : Heap} {L : Addr} {m : Str → Option Value} {env : Env}
noncomputable def SrcTup (ax : Addr) (its : Array Value) (news : List (Addr × Obj)) : Prop := ∃ n, (ax, ({ cls := .type "tuple", data := .seq its n } : Obj)) ∈ news
theorem SrcTup.tup {h : Heap} {ax : Addr} {its : Array Value} {news : List (Addr × Obj)} (x : SrcTup ax its news) (N : News h₀ L h news) : h.IsTuple ax its := let ⟨n, hm⟩ := x; ⟨_, (N _ hm).1, rfl, n, rfl⟩
noncomputable def CompSrcTup (prog : Program) (w : World) (A : Around) (h₀ : Heap) (L : Addr) (m : Str → Option Value) (env : Env) (elt : Expr) (x : Str) (scope : Scope) (cl : List (Str × Addr)) (Fin : Shared → List Value → List (Addr × Obj) → Prop) (xv : Value) (s₁ : Shared) : Prop :=
  ∃ ax its news, xv = .ref ax ∧ A.handled = none ∧ Fr h₀ L s₁.heap m ∧ News h₀ L s₁.heap news ∧ SrcTup ax its news ∧ its.size ≤ sizeLine ∧
    ∀ s₂ : Shared, (∃ h, s₂ = { s₁ with heap := h }) → LCg.CompRest prog w A h₀ L m env elt x scope cl s₂ (SrcTup ax its) (fun i v => its[i]? = some v) (Fin s₂) its.size 0 [] news
theorem CompSrcTup.ledger {elt : Expr} {x : Str} {scope : Scope} {cl : List (Str × Addr)} {Fin : Shared → List Value → List (Addr × Obj) → Prop} {ax : Addr} {its : Array Value} {k : Nat} {news : List (Addr × Obj)} {s₁ : Shared}
    (hh : A.handled = none) (F : Fr h₀ L s₁.heap m) (N : News h₀ L s₁.heap news) (hm : (ax, ({ cls := .type "tuple", data := .seq its k } : Obj)) ∈ news) (hsz : its.size ≤ sizeLine)
    (h : ∀ g, LCg.CompRest prog w A h₀ L m env elt x scope cl { s₁ with heap := g } (SrcTup ax its) (fun i v => its[i]? = some v) (Fin { s₁ with heap := g }) its.size 0 [] news) :
    CompSrcTup prog w A h₀ L m env elt x scope cl Fin (.ref ax) s₁ := ⟨ax, its, news, rfl, hh, F, N, ⟨_, hm⟩, hsz, fun _ ⟨g, e⟩ => e ▸ h g⟩
theorem ListComp_Tup {elt iter : Expr} {x : Str} {px : Pos} {scope : Scope} {cl : List (Str × Addr)} {pos : Pos} {Q : Value → Shared → Prop} (F₀ : Fr h₀ L s.heap m)
    (hclos : closureFor scope env = pure cl) (hcell : ∀ y ∈ scope.names, y.2 ≠ .cell) (hkind : scope.kind = .function)
    (hnames : ∀ y ∈ scope.names, y.2 = .local → scope.names.lookup y.1 = some .local) (hx : scope.names.lookup x = some .local)
    (h : wpAny (model prog w) A (eval iter env) (CompSrcTup prog w A h₀ L m env elt x scope cl (fun s₂ => LCg.FinE h₀ L m s₂ Q)) E s)
    (hs : ∀ x, foldedSetIterable iter env x = pure x := by intro _; rfl) :
    wpAny (model prog w) A (eval (.ListComp elt [⟨.Name x px, iter, [], 0⟩] scope pos) env) Q E s := by
  rw [eval_ListComp]
  refine wpAny_comprehension_free (use := none) rfl hs hclos hkind hnames (wpAny_mono h (fun xv s₁ h₁ => ?_) fun _ _ e => e)
  obtain ⟨ax, its, news, rfl, hh, F, N, S, hsz, R⟩ := h₁
  have hl := S.tup N
  have hlt : ax < s₁.heap.objs.size := by obtain ⟨_, e, _⟩ := hl; exact Heap.lt_size e
  refine wpAny_pyIter_tuple hl ?_
  have up : ∀ b o, s₁.heap.get? b = some o → (s₁.heap.push { cls := .type "tuple_iterator", data := .fields #[.ref ax, .int 0 0] }).get? b = some o := fun b o e => Heap.get?_push_of_some _ e
  refine LCg.block_U (Walks.tuple hh s₁.heap.objs.size ax (Nat.ne_of_lt hlt) its) hsz (fun i h st => by obtain ⟨o, e, _⟩ := st.1; exact ⟨o, e⟩)
    (fun i h h' o nw st e e' k N S => ⟨by obtain ⟨o', q, r⟩ := st.1; rw [e] at q; cases q; exact ⟨o, e', r⟩, S.tup N⟩) hcell hkind hx ⟨⟨_, Heap.get?_push_size _ rfl, rfl, rfl⟩, hl.push _⟩ (fun b hb => ?_)
    (F.keeps up) (N.grown up) (Nat.ne_of_lt F.ns.lt) (next_is_new F) (fun p hp => Nat.ne_of_lt (Heap.lt_size (N p hp).1)) S (R _ ⟨_, rfl⟩) ?_
  · show b < (s₁.heap.push _).objs.size
    rw [Heap.size_push]
    rcases List.mem_cons.mp hb with rfl | hb
    · exact Nat.lt_succ_self _
    · rw [List.mem_singleton.mp hb]; exact Nat.lt_succ_of_lt hlt
  · intro D C h tk m' ys news' F' N' o1 hn hC₀ hD₀ hCL hDL hCD offC fin
    refine ⟨m', hn, fun h'' hs'' => fin D h'' tk (F'.change hs'' hCL hC₀) (fun p hp => ?_) o1⟩
    refine ⟨hs''.extBut _ _ ?_ (N' p hp).1, (N' p hp).2⟩
    rcases List.mem_cons.mp hp with rfl | hp
    · exact Ne.symm hCD
    · exact offC p hp
end
theorem lst3 {A B C A' B' C' : Int} {u1 u2 u3 : Tok} (eA : A = A') (eB : B = B') (eC : C = C') : LCg.lst [.int A u1, .int B u2, .int C u3] = listOf #[.int A' u1, .int B' u2, .int C' u3] 3 := by
  subst eA eB eC; rfl
/- a new list of three ints -/
noncomputable def New3 (h h' : Heap) (v : Value) (c : Int × Int × Int) : Prop := ∃ x u1 u2 u3 n, v = .ref x ∧ h.get? x = none ∧ h'.get? x = some (listOf #[.int c.1 u1, .int c.2.1 u2, .int c.2.2 u3] n)
/- the grey taken out -/
noncomputable def lessI (a b c : Int) : Int × Int × Int := (a - min a (min b c), b - min a (min b c), c - min a (min b c))
theorem min_is {M a b c : Int} (h : M = a ∨ M = b ∨ M = c) (h2 : M ≤ a ∧ M ≤ b ∧ M ≤ c) : M = min a (min b c) := by
  simp only [Int.min_def]; repeat' split
  all_goals omega
end Mine
end
section
open PySem PySem.W PyProof.Rows PySem.Spec PySem.Calls PySem.Flt
set_option maxRecDepth 100000
set_option maxHeartbeats 0
namespace Mine
theorem pad_of_M6 : True := by
  w_top off
  trivial
theorem fill6 : (hd.heap_39 = hd.heap_39) ∧ (PySem.Challenge.rw_zo0002_01 = PySem.Challenge.rw_zo0002_01) := by
  k_fill
  exact ⟨rfl, rfl⟩
/- tb_start: a def without cells is entered; tb_rel: a def with cells is entered -/


/- the text of a zone of so many sixths of a day, in one of four dresses -/
noncomputable def zoneS (sx e : Int) : Str :=
  if e = 0 then Str.ofString "+" ++ Txt.slice (Str.ofString (toString (100 + 4 * sx))) (some 1) none ++ Str.ofString ":00"
  else if e = 1 then Str.ofString "-" ++ Txt.slice (Str.ofString (toString (124 - 4 * sx))) (some 1) none ++ Str.ofString "00"
  else if e = 2 then Str.ofString (toString (4 * sx))
  else Str.ofString "-" ++ Str.ofString (toString (24 - 4 * sx)) ++ Str.ofString ":"
local macro_rules | `(tactic| k_ne) => `(tactic| grind only)
theorem zone_ok (w : World) (sx dress : Int) (t1 t2 : Tok) (hx : 1 ≤ sx ∧ sx ≤ 5) :
    CtrB w 1 86 [.int sx t1, .int dress t2] (fun h => True) (fun h h' v => ∃ t, v = .str (zoneS sx dress) t) := by
  refine' CtrB.body [(Str.ofString "sixths", .int sx t1), (Str.ofString "dress", .int dress t2)] ?k6 ?k7 ?k9 ?kB (Nat.le_refl _) ?c2 ?c3 ?c4 ?c5 ?_
  case k6 => k_is
  case k7 => k_is
  case k9 => intro _; exact BindsTo.of_eq rfl
  case kB => exact locs rfl
  case c2 => exact rfl
  case c3 => exact rfl
  case c4 => exact rfl
  case c5 => decide
  intro κ mean mg mb base s L' h' tk' Q E hdp hu hc F' B' X' T' hret
  have N' : News s.heap L' h' [] := fun _ h => nomatch h
  (try dsimp only)
  k_steps
  all_goals ((rename Fr s.heap _ _ _ => F9); refine hret _ _ _ _ F9 ⟨_, congrArg (fun q => Value.str q _) ?_⟩; clear F9 hret)
  all_goals (unfold zoneS; first | (simp only [*, if_true, if_false]; done) | simp [*])
end Mine
end
section
open PySem PySem.W PyProof.Rows PySem.Spec PySem.Calls PySem.Flt
set_option maxRecDepth 100000
set_option maxHeartbeats 1000000
namespace Mine
open Sem (wp)
/- a code that may hold the bytes of a bytearray -/
noncomputable def holdId : Code → Bool
  | .builtin id _ => (["bytearray.__contains__", "bytearray.__mod__", "bytearray.__rmod__", "_struct.pack_into.held", "bytearray.find.held"] ++ Builtin.Bytes.decodersThatHold).contains id
  | _ => false
noncomputable def NoHold (l : List (Code × Pos)) : Prop := ∀ x ∈ l, holdId x.1 = false
/- in all surroundings that hold no bytearray: runs without a raise -/
noncomputable def wpN {α : Type} (M : Model) (A : Around) (t : Sem α) (Q : α → Shared → Prop) (s : Shared) : Prop :=
  ∀ Γ p, Γ.In A → holdId Γ.code = false → NoHold Γ.below → wp M Γ t (fun a _ s' => Q a s') (fun _ _ _ => False) p s
noncomputable def okR (Q : Flow → Shared → Prop) : Result → Shared → Prop := fun r s' => match r with | .ok f => Q f s' | .error _ => False
noncomputable def codeN (M : Model) (A : Around) (c : Code) (Q : Flow → Shared → Prop) (s : Shared) : Prop :=
  ∀ Γ p, Γ.code = c → Γ.Below A → NoHold Γ.below → wpCode M Γ (okR Q) p s
noncomputable abbrev noE : Value → Shared → Prop := fun _ _ => False

section
variable {α β : Type} {M : Model} {A : Around} {s : Shared} {env : Env}
theorem N_of {t : Sem α} {Q : α → Shared → Prop} (h : wpAny M A t Q noE s) : wpN M A t Q s := fun Γ p hΓ _ _ => h Γ p hΓ
theorem N_mono {t : Sem α} {Q Q' : α → Shared → Prop} (h : wpN M A t Q s) (hQ : ∀ a s, Q a s → Q' a s) : wpN M A t Q' s :=
  fun Γ p hΓ h1 h2 => Sem.wp_mono M Γ t (fun a _ s => hQ a s) (fun _ _ _ h => h) p s (h Γ p hΓ h1 h2)
theorem N_monoC {c : Code} {Q Q' : Flow → Shared → Prop} (h : codeN M A c Q s) (hQ : ∀ f s, Q f s → Q' f s) : codeN M A c Q' s :=
  fun Γ p hc hΓ h2 => wpCode_mono (fun r s hr => by cases r with | ok f => exact hQ f s hr | error e => exact hr) (h Γ p hc hΓ h2)
theorem N_pure {a : α} {Q : α → Shared → Prop} (h : Q a s) : wpN M A (pure a) Q s := fun _ _ _ _ _ => h
theorem N_bind {m : Sem α} {f : α → Sem β} {Q : β → Shared → Prop} (h : wpN M A m (fun a s' => wpN M A (f a) Q s') s) : wpN M A (m >>= f) Q s :=
  fun Γ p hΓ h1 h2 => by
    rw [Sem.wp_bind']
    exact Sem.wp_mono M Γ m (fun a p' s' h' => h' Γ p' hΓ h1 h2) (fun _ _ _ h' => h') p s (h Γ p hΓ h1 h2)
theorem N_abind {m : Sem α} {f : α → Sem β} {Q : β → Shared → Prop} (h : wpAny M A m (fun a s' => wpN M A (f a) Q s') noE s) : wpN M A (m >>= f) Q s := N_bind (N_of h)
theorem N_onRaise {m : Sem α} {k : Value → Sem Unit} {Q : α → Shared → Prop} (h : wpN M A m Q s) : wpN M A (m.onRaise k) Q s := fun Γ p hΓ h1 h2 => by
  rw [Sem.wp_onRaise]
  exact Sem.wp_mono M Γ m (fun _ _ _ h' => h') (fun e p' s' h' => h'.elim) p s (h Γ p hΓ h1 h2)
theorem N_holding {vs : List Value} {m : Sem α} {Q : α → Shared → Prop} (h : wpN M A m Q s) : wpN M A (holding vs m) Q s :=
  fun Γ p hΓ h1 h2 => by rw [Sem.wp_holding]; exact h Γ p hΓ h1 h2
theorem N_keep {vs : List Value} {m : Sem α} {Q : α → Shared → Prop} (h : wpN M A m Q s) : wpN M A (m.keep vs) Q s :=
  fun Γ p hΓ h1 h2 => by rw [Sem.wp_keep]; exact h Γ p hΓ h1 h2
theorem N_standAt {β : Type} {pos : Pos} {t : Sem β} {Q : β → Shared → Prop} (h : wpN M A t Q s) : wpN M A (standAt pos >>= fun _ => t) Q s := N_abind (wpAny_standAt h)
theorem NoHold_enter {Γ : PySem.Ctx} {c : Code} {h : Option Value} {p : Pos} (h1 : holdId Γ.code = false) (h2 : NoHold Γ.below) : NoHold (Γ.enter c h p).below := fun x hx => by
  rcases List.mem_cons.mp hx with rfl | hx
  · exact h1
  · exact h2 x hx
theorem N_run {c : Code} {Q : Flow → Shared → Prop} (hc : codeN M A c Q s) : wpN M A (run c) Q s := fun Γ p hΓ h1 h2 => by
  rw [Sem.wp_run]
  refine wpCode_mono (fun r s' hr => ?_) (hc _ p rfl (hΓ.enter c none p (by intro x; cases x)) (NoHold_enter h1 h2))
  cases r with | ok f => exact hr | error e => exact hr
theorem N_runValue {c : Code} {Q : Value → Shared → Prop} (hc : codeN M A c (fun f s' => match f with | .ret v => Q v s' | _ => False) s) : wpN M A (runValue c) Q s := fun Γ p hΓ h1 h2 => by
  rw [Sem.wp_runValue]
  refine wpCode_mono (fun r s' hr => ?_) (hc _ p rfl (hΓ.enter c none p (by intro x; cases x)) (NoHold_enter h1 h2))
  cases r with | ok f => cases f <;> exact hr | error e => exact hr
theorem N_call {f : Value} {pos : List Value} {kw : List (Str × Value)} {Q : Value → Shared → Prop} (hc : codeN M A (.call f ⟨pos, kw⟩) (fun f s' => match f with | .ret v => Q v s' | _ => False) s) : wpN M A (call f pos kw) Q s := N_runValue hc
theorem N_runOwn {c : Code} {Q : Flow → Shared → Prop} (hc : codeN M A c Q s) : wpN M A (runOwn c env) Q s := by
  unfold runOwn
  exact N_onRaise (N_run hc)
theorem N_tree {c : Code} {Q : Flow → Shared → Prop} (hcl : holdId c = false)
    (h : wpN M (A.under c) (M.den c) (fun fin s' => match fin with | .done f => Q f s' | .again c' => c'.quiet = true ∧ codeN M A c' Q s') s) : codeN M A c Q s := fun Γ p hc hΓ h2 => by
  rw [wpCode_iff_wp, hc]
  refine Sem.wp_mono M Γ _ (fun fin p' s' h' => ?_) (fun _ _ _ h' => h'.elim) p s (h Γ p (hc ▸ hΓ.in) (hc ▸ hcl) h2)
  cases fin with
  | done f => exact h'
  | again c' => exact ⟨h'.1, h'.2 (Γ.goto c') p' rfl (hΓ.goto c') h2⟩
theorem N_stackAny {f : Code × Pos → Bool} {Q : Bool → Shared → Prop} (hf : ∀ c p, holdId c = false → f (c, p) = false) (h : Q false s) : wpN M A (do return (← stack).any f) Q s := fun Γ p hΓ h1 h2 => by
  show Q (((Γ.code, p) :: Γ.below).any f) s
  have : ((Γ.code, p) :: Γ.below).any f = false := by
    rw [List.any_eq_false]
    intro x hx
    rcases List.mem_cons.mp hx with rfl | hx
    · rw [hf _ _ h1]; exact Bool.false_ne_true
    · obtain ⟨c, q⟩ := x
      rw [hf c q (h2 _ hx)]; exact Bool.false_ne_true
  rw [this]; exact h

/- statements -/
theorem N_cons {st rest} {Q : Flow → Shared → Prop} (h : wpN M A (exec st env) (fun f s' => match f with | .next => wpN M A (execs rest env) Q s' | f => Q f s') s) : wpN M A (execs (st :: rest) env) Q s := by
  rw [execs_cons]
  refine N_bind (N_mono h fun f s' h' => ?_)
  cases f <;> first | exact h' | exact N_pure h'
theorem N_acons {st rest} {Q : Flow → Shared → Prop} (h : wpAny M A (exec st env) (fun f s' => match f with | .next => wpN M A (execs rest env) Q s' | f => Q f s') noE s) : wpN M A (execs (st :: rest) env) Q s := N_cons (N_of h)
theorem N_If {test body orelse pos} {Q : Flow → Shared → Prop} (h : wpAny M A (isTrue test env (eval test env)) (fun b s₂ => if b then wpN M A (execs body env) Q s₂ else wpN M A (execs orelse env) Q s₂) noE s) :
    wpN M A (exec (.If test body orelse pos) env) Q s := by
  rw [exec_If]
  refine N_standAt (N_abind (wpAny_mono h (fun b s₂ h₂ => ?_) fun _ _ x => x))
  cases b <;> exact h₂
theorem N_Expr {e pos} {Q : Flow → Shared → Prop} (h : wpN M A (eval e env) (fun v s' => match v with | .ref _ => False | _ => Q .next s') s)
    (hi : interactive env = false := by rfl) (hs : swapsWith e none pos.line env = pure false := by rfl) : wpN M A (exec (.Expr e pos) env) Q s := by
  rw [exec_Expr env e pos hi hs]
  refine N_standAt (N_bind (N_mono h fun v s' h' => ?_))
  have hv : ∀ a, v ≠ .ref a := fun a hva => by subst hva; exact h'
  rw [dropValue_plain hv]
  refine N_pure ?_
  cases v <;> first | exact h' | exact (hv _ rfl).elim
theorem N_Assign {x pos' value pos} {Q : Flow → Shared → Prop} (h : wpN M A (eval value env) (fun v s₁ => wpAny M A (storeName env x v) (fun _ => Q .next) noE s₁) s)
    (hs : swapsWith value (some (.Name x pos')) pos.line env = pure false := by rfl) : wpN M A (exec (.Assign [.Name x pos'] value pos) env) Q s := by
  rw [exec_Assign_Name env x pos' value pos hs]
  refine N_standAt (N_bind (N_mono h fun v s₁ h₁ => N_standAt (N_abind (wpAny_bindName (wpAny_mono h₁ (fun _ _ h' => N_pure h') fun _ _ x => x)))))
theorem N_For {target iter body orelse pos} {Q : Flow → Shared → Prop}
    (h : wpAny M A (eval iter env) (fun x s₁ => wpAny M A (pyIter x) (fun it s₂ => codeN M A (.forLoop target it body orelse env) Q s₂) noE s₁) noE s)
    (hs : ∀ x, foldedSetIterable iter env x = pure x := by intro _; rfl) : wpN M A (exec (.For target iter body orelse pos) env) Q s := by
  rw [exec_For]
  refine N_standAt (N_abind (wpAny_mono h (fun x s₁ h₁ => ?_) fun _ _ h' => h'))
  rw [hs x]
  exact N_abind (wpAny_pure (N_standAt (N_abind (wpAny_holding (wpAny_mono h₁ (fun it s₂ h₂ => N_runOwn h₂) fun _ _ h' => h')))))
/- expressions -/
theorem N_CallName {id : Str} {p pos : Pos} {args : List Expr} {Q : Value → Shared → Prop}
    (h : wpAny M A (eval (.Name id p) env) (fun f s₁ => wpN M A (callWith pos f [] (backTo pos (starEach args env)) []) Q s₁) noE s) :
    wpN M A (eval (.Call (.Name id p) args [] pos) env) Q s := by
  show wpN M A (do callWith pos (← eval (.Name id p) env) [] (backTo pos (starEach args env)) (backToKw pos (keywordEach [] env))) Q s
  exact N_abind h
theorem N_tail {t : Sem Value} {Q : Value → Shared → Prop} (ht : wpN M A t Q s) : wpN M A (t >>= fun r => holding [r] point >>= fun _ => pure r) Q s :=
  N_bind (N_mono ht fun r s₂ hr => N_abind (wpAny_holding (wpAny_point (N_pure hr))))
theorem N_callWith_function {pos : Pos} {a : Addr} {o : Obj} {fd : FuncData} {first : List Value} {args : List (Bool × Sem Value)} {Q : Value → Shared → Prop}
    (h : wpAny M A (evalArgs (.ref a) true args []) (fun x s₁ => (s₁.heap.get? a = some o ∧ o.data = .func fd) ∧ wpN M A (call (.ref a) (first ++ x.pos) x.kw) Q s₁) noE s) :
    wpN M A (callWith pos (.ref a) first args []) Q s := by
  unfold callWith
  refine N_abind (wpAny_holding (wpAny_mono h (fun x s₁ h₁ => N_standAt ?_) fun _ _ x => x))
  cases hs : args.any (·.1) <;> simp only [List.any_nil, Bool.or_false] <;>
    refine N_bind (m := keeperOf (.ref a)) (N_of ?_) <;> unfold keeperOf <;>
    refine wpAny_bind (wpAny_load h₁.1.1 ?_) <;> rw [h₁.1.2] <;> refine wpAny_pure ?_
  · (repeat' split) <;> refine N_tail ?_ <;> first
      | exact h₁.2
      | (unfold callMarked; exact N_keep h₁.2)
  · (repeat' split) <;> refine N_tail ?_ <;> first
      | exact h₁.2
      | (unfold callMarked; exact N_keep h₁.2)
theorem N_callWith_type {pos : Pos} {T : String} {first : List Value} {args : List (Bool × Sem Value)} {Q : Value → Shared → Prop} (hplain : args.any (·.1) = false)
    (h : wpAny M A (evalArgs (.type T) true args []) (fun a s₁ => wpN M A (call (.type T) (first ++ a.pos) a.kw) Q s₁) noE s) :
    wpN M A (callWith pos (.type T) first args []) Q s := by
  unfold callWith
  refine N_abind (wpAny_holding (wpAny_mono h (fun x s₁ h₁ => N_standAt ?_) fun _ _ x => x))
  simp only [hplain, List.any_nil, Bool.or_false]
  refine N_abind (wpAny_pure ?_)
  exact N_tail h₁
theorem N_spliced1 {x : Sem Value} {Q : List Value → Shared → Prop} (h : wpN M A x (fun v s₁ => Q [v] s₁) s) : wpN M A (spliced [(false, x)]) Q s := by
  rw [spliced]
  refine N_bind (N_mono h fun v s₁ h₁ => ?_)
  simp only [Bool.false_eq_true, if_false]
  exact N_abind (wpAny_pure (N_abind (wpAny_holding (Calls.spliced_nil (N_pure h₁)))))
theorem N_evalArgs1 {f : Value} {x : Sem Value} {Q : Args → Shared → Prop} (h : wpN M A x (fun v s₁ => Q ⟨[v], []⟩ s₁) s) : wpN M A (evalArgs f true [(false, x)] []) Q s := by
  unfold evalArgs
  show wpN M A (spliced [(false, x)] >>= _) Q s
  refine N_bind (N_mono (N_spliced1 (Q := fun l s' => ∃ v, l = [v] ∧ Q ⟨[v], []⟩ s') (N_mono h fun v s' h' => ⟨v, rfl, h'⟩)) fun vs s' h' => ?_)
  obtain ⟨v, rfl, h'⟩ := h'
  refine N_holding ?_
  exact N_abind (wpAny_pure (N_abind (wpAny_pure (N_pure h'))))
theorem N_callWith_builtin1 {pos : Pos} {id : String} {first : List Value} {x : Sem Value} {Q : Value → Shared → Prop}
    (h : wpN M A x (fun v s₁ => wpAny M A (call (.builtin id) (first ++ [v])) Q noE s₁) s) :
    wpN M A (callWith pos (.builtin id) first [(false, x)] []) Q s := by
  unfold callWith
  refine N_bind (N_holding (N_evalArgs1 (N_mono h fun v s₁ h₁ => N_standAt ?_)))
  simp only [List.any_cons, List.any_nil, Bool.or_false]
  refine N_abind (wpAny_pure ?_)
  exact N_tail (N_of h₁)
theorem N_BinOpR {l op r pos} {Q : Value → Shared → Prop} (h : wpAny M A (eval l env) (fun a s₁ => wpN M A (eval r env) (fun b s₂ => wpAny M A (binaryOp op a b) Q noE s₂) s₁) noE s) :
    wpN M A (eval (.BinOp l op r pos) env) Q s := fun Γ p hΓ h1 h2 => by
  simp only [eval_BinOp, Sem.wp_bind', Sem.wp_holding, Sem.wp_cmd_standAt, Sem.wp_operate]
  exact Sem.wp_mono M Γ _ (fun a p₁ s₁ h₁ => Sem.wp_mono M Γ _ (fun b _ s₂ h₂ => h₂ Γ _ hΓ) (fun _ _ _ h' => h') _ _ (h₁ Γ p₁ hΓ h1 h2))
    (fun _ _ _ h' => h') _ _ (h Γ p hΓ)
theorem N_BinOpL {l op r pos} {Q : Value → Shared → Prop} (h : wpN M A (eval l env) (fun a s₁ => wpAny M A (eval r env) (fun b s₂ => wpAny M A (binaryOp op a b) Q noE s₂) noE s₁) s) :
    wpN M A (eval (.BinOp l op r pos) env) Q s := fun Γ p hΓ h1 h2 => by
  simp only [eval_BinOp, Sem.wp_bind', Sem.wp_holding, Sem.wp_cmd_standAt, Sem.wp_operate]
  exact Sem.wp_mono M Γ _ (fun a p₁ s₁ h₁ => Sem.wp_mono M Γ _ (fun b _ s₂ h₂ => h₂ Γ _ hΓ) (fun _ _ _ h' => h') _ _ (h₁ Γ p₁ hΓ))
    (fun _ _ _ h' => h') _ _ (h Γ p hΓ h1 h2)
end
section
variable {prog : Program} {w : World} {A : Around} {s : Shared} {env : Env}
theorem N_func {body env} {Q : Flow → Shared → Prop} (h : wpN (model prog w) (A.deeper env) (execs body env) (fun f s' => Q (.ret (match f with | .ret v => v | _ => .none)) s') s) :
    codeN (model prog w) A (.func body env) Q s := by
  refine N_tree rfl ?_
  show wpN _ (A.deeper env) (do point; match ← (execs body env).onRaise (leaving env) with | .ret v => ret v | _ => ret .none) _ s
  refine N_abind (wpAny_point (N_bind (N_onRaise (N_mono h fun f s' h' => ?_))))
  cases f <;> exact N_pure h'
theorem N_block {stmts : List Stmt} {Q : Flow → Shared → Prop} (h : wpN (model prog w) A (execs stmts env) Q s) : codeN (model prog w) A (.block stmts env) Q s := by
  refine N_tree rfl ?_
  show wpN _ A (do return Fin.done (← (execs stmts env).onRaise (fun x => do noteFrame x env; theTreesLotGoes x))) _ s
  exact N_bind (N_onRaise (N_mono h fun f s' h' => N_pure h'))
/- a for loop, one turn: the next item and the body, or the end -/
theorem N_loop {Q : Flow → Shared → Prop} {target it body orelse env}
    (turn : wpAny (model prog w) A (pyNext it) (fun r s₁ => match r with
      | none => wpN (model prog w) A (execs orelse env) Q s₁
      | some v => wpAny (model prog w) A (letOwnedTupleGo target it v) (fun _ s₁' => wpAny (model prog w) A (assign target env v) (fun _ s₂ => wpN (model prog w) A (execs body env) (fun f s₃ => match f with
          | .next | .cont => codeN (model prog w) A (.forLoop target it body orelse env) Q s₃
          | .brk => Q .next s₃
          | .ret v => Q (.ret v) s₃) s₂) noE s₁') noE s₁) noE s) : codeN (model prog w) A (.forLoop target it body orelse env) Q s := by
  refine N_tree rfl ?_
  show wpN _ A ((forTurn target it body orelse env).onRaise (fun x => do noteFrame x env; theTreesLotGoes x)) _ s
  refine N_onRaise ?_
  simp only [forTurn]
  refine N_standAt (N_bind (N_onRaise (N_of (wpAny_mono turn (fun r s₁ h₁ => ?_) fun _ _ x => x))))
  cases r with
  | none => exact N_pure ⟨rfl, N_block h₁⟩
  | some v =>
    refine N_abind (wpAny_mono h₁ (fun _ s₁' h₁' => N_abind (wpAny_mono h₁' (fun _ s₂ h₂ => N_bind (N_mono h₂ fun f s₃ h₃ => ?_)) fun _ _ x => x)) fun _ _ x => x)
    cases f with
    | next => exact N_pure ⟨rfl, h₃⟩
    | cont => exact N_pure ⟨rfl, h₃⟩
    | brk => exact N_pure h₃
    | ret v => exact N_pure h₃
theorem N_call_function {a : Addr} {args : Args} {o : Obj} {fd : FuncData} {body : List Stmt} {Q : Flow → Shared → Prop} (hroom : A.depth < recursionLimit)
    (ho : s.heap.get? a = some o) (hd' : o.data = .func fd) (hco : fd.scope.isCoroutine = false) (hgen : fd.scope.isGenerator = false) (hbody : fd.body = .stmts body) (hcd : s.heap.CodeRec fd.code fd.qualname)
    (h : wpAny (model prog w) A.in1 (bindArgs fd args) (fun binds s₁ =>
      wpAny (model prog w) A.in1 (newFunctionEnv fd.scope fd.globals fd.closure binds (fd.qualname ++ ".<locals>.") (some a) fd.code none fd.builtins)
        (fun env s₂ => s₂.heap.NoLimit ∧ codeN (model prog w) A (.func body env) Q s₂) noE s₁) noE s) :
    codeN (model prog w) A (.call (.ref a) args) Q s := by
  refine N_tree rfl ?_
  show wpN _ A.in1 (callAny (.ref a) args) _ s
  refine N_of ?_
  simp only [callAny]
  refine wpAny_bind (wpAny_load ho ?_)
  obtain ⟨c, oc, vs, tq, hc, hoc, hdc, hq⟩ := hcd
  simp only [hd', callFunction, hco, hgen, hbody, hc]
  rw [hc] at h
  refine wpAny_bind (m := field (.ref c) 1) (wpAny_field hoc hdc hq (wpAny_bind (wpAny_pure ?_)))
  exact wpAny_bind (wpAny_mono h (fun binds s₁ h₁ => wpAny_bind (wpAny_mono h₁ (fun env s₂ h₂ => wpAny_bind (wpAny_enterFrame h₂.1 hroom
    (wpAny_pure (And.intro rfl h₂.2)))) fun _ _ h' => h')) fun _ _ h' => h')
theorem N_append {o elt : Expr} {apos pos : Pos} {Q : Value → Shared → Prop}
    (hbase : attributeBase o "append" env (eval o env) = eval o env)
    (hfew : ((backTo pos (starEach [elt] env)).all (fun x => !x.1) && (backToKw pos (keywordEach [] env)).all (fun x => x.1.isSome)
      && decide (([elt] : List Expr).length + ([] : List Keyword).length + (if ([] : List Keyword).isEmpty then 0 else 1) < 30)) = true)
    (hline : (apos.endLine == pos.line) = true)
    (htrees : backTo pos (starEach [elt] env) = [(false, eval elt env)])
    (h : wpAny (model prog w) A (eval o env) (fun ov s₁ => ∃ D its, ov = .ref D ∧ PlainL s₁.heap D its ∧
      wpN (model prog w) A (eval elt env) (fun y s₂ => wpAny (model prog w) A (call (.builtin "list.append") [.ref D, y]) Q noE s₂) s₁) noE s) :
    wpN (model prog w) A (eval (.Call (.Attribute o "append" apos) [elt] [] pos) env) Q s := by
  rw [arm_eval_Call, hbase]
  refine N_abind (wpAny_mono h (fun ov s₁ h₁ => ?_) fun _ _ e => e)
  obtain ⟨D, its, rfl, ⟨ob, n, hob, hc, hd, _⟩, hcall⟩ := h₁
  refine N_standAt ?_
  have fin : wpN (model prog w) A (callWith pos (.builtin "list.append") [.ref D] (backTo pos (starEach [elt] env)) []) Q s₁ := by
    rw [htrees]
    exact N_callWith_builtin1 (N_mono hcall fun y s₂ h₂ => h₂)
  have hform : methodCallForm (([elt] : List Expr).length + ([] : List Keyword).length) (backTo pos (starEach [elt] env)) (backToKw pos (keywordEach [] env)) = true := hfew
  have hpos : methodCallPos true o env apos pos = pure pos := by unfold methodCallPos; simp [hline]
  unfold methodCall
  rw [hform]
  refine N_abind (wpAny_holding (Calls.getMethod_list_append hob hc hd ?_))
  exact N_abind (wpAny_of_eq hpos fin)
end
end Mine
end
section
open PySem PySem.W PyProof.Rows PySem.Spec PySem.Calls PySem.Flt
set_option maxRecDepth 100000
set_option maxHeartbeats 1000000
namespace Mine
open Sem (wp)
/- what a law's walk shows: in surroundings that hold no bytearray -/
noncomputable abbrev WalkH (q : Program) (loose : List Str) (XP : (Str → Option Value) → Heap → Prop) (YP : World → Heap → Prop) (r : RowW) (d : DefRec) (kwd : List (Str × PySem.Expr)) : Prop :=
  ∀ (w : World) (s₀ s₁ : Shared) (mg mb : Str → Option Value), Ground q loose r.records XP w s₀ mg mb s₁.heap → YP w s₁.heap → ∀ (a : Addr) (o : Obj) (pm cd doc dV kV : Value), s₁.heap.get? a = some o →
    o.data = .func { docDef d.name d.params d.body d.scope pm cd doc with defaults := dV, kwdefaults := kV } → s₁.heap.CodeRec cd d.name → Dflts mg s₁.heap d.params kwd dV kV → mg d.name = some (.ref a) → s₁.gens = #[] →
    ∀ (args : List WData) (vals : List Value) (as : List Addr), r.claim.pre args = true → WData.layableAll args = true → ReadsAllW r.records (classAt s₀.heap) s₁.heap vals args as → WellAll w.params s₁.heap vals args → (∀ a ∈ as, (a == sysModules) = false) →
      wpN (model r.prog w) callerA (call (.ref a) vals) (fun v s' => GoodWG r.claim (classAt s₀.heap) (ExcName.means s₀.heap) args s₁ (.ok (.ret v)) s') s₁

theorem holdId_caller : holdId (.builtin "claim.caller" {}) = false := by decide +kernel
theorem ends_N {prog : Program} {w : World} {t : Sem Fin} {s : Shared} {R : Result → Shared → Prop} (hreg : s.asleep)
    (h : wpN (model prog w) callerA t (fun fin s' => ∃ f, fin = .done f ∧ (R (.ok f) s' ∧ leftWithCleanup s'.gens = false)) s) :
    ∃ n r s' s'', runN (denote table) prog w n s ⟨t, .builtin "claim.caller" {}, default, []⟩ = .halted (outcomeOf r) s' ∧
      schedN (denote table) prog w n (.single s ⟨t, .builtin "claim.caller" {}, default, []⟩) = .halted (outcomeOf r) s' ∧ s'.forget = s''.forget ∧ R r s'' := by
  obtain ⟨n, r, s₁, s₂, hs, hn, hfo, hR⟩ := wp_halts_full (M := model prog w) (R := R) hreg
    (Sem.wp_mono _ _ _ (fun fin p' s' h' => by obtain ⟨f, rfl, hf⟩ := h'; exact hf) (fun _ _ _ h' => h'.elim) _ _
      (h ⟨.builtin "claim.caller" {}, none, none, [], none⟩ default caller_in holdId_caller (fun _ hx => (nomatch hx))))
  exact ⟨n, r, s₂, s₁, hn, hs, hfo, hR⟩
theorem callFrom_N {c : ClaimW} {tree : List Value → Sem Fin} {w : World} {s : Shared} {free : Addr → Prop} {gens : Prop} {kept : Heap → Prop} (hz : s.asleep) (hgens : s.gens = #[])
    (hspec : ∀ args, c.pre args = true → WData.layableAll args = true →
      ∀ ord : List DictEntry → List DictEntry, (∀ l, (ord l).Perm l) →
      ∃ vs s₁, layAllW c.records (classAt s.heap) w.params ord args s = some (vs, s₁) ∧
        wpN (model c.prog w) callerA (tree vs) (fun fin s' => ∃ f, fin = .done f ∧ (c.Ends s args vs s₁ (.ok f) s' ∧ s'.os = s.os ∧ AllBare s'.gens ∧ kept s'.heap)) s₁) :
    c.CallFrom (fun vs => ⟨tree vs, .builtin "claim.caller" {}, default, []⟩) w free gens kept s := by
  intro args hpre hlay ord hord
  refine hide fun GG hGG => ?_
  obtain ⟨vs, s₁, hlaid, hcode⟩ := hspec args hpre hlay ord hord
  have hal := layAllW_rest _ _ _ hlaid
  obtain ⟨k, r, s', s'', hrun, hsched, hfo, hcase, hos, hkp⟩ := ends_N (prog := c.prog) (w := w) (t := tree vs) (s := s₁)
    (R := fun r s' => c.Ends s args vs s₁ r s' ∧ s'.os = s.os ∧ kept s'.heap)
    (Shared.asleep_of_life hal.2.2.2 hz)
    (N_mono hcode (by
      rintro fin s' ⟨f, e, h1, h2, h3, h4⟩
      exact ⟨f, e, ⟨h1, h2, h4⟩, leftWithCleanup_false_of_bare h3⟩))
  obtain ⟨eh, _, _, eo, _⟩ := Shared.forget_eq hfo
  have hcase := hcase.congr eh
  have hkp : kept s'.heap := by first | exact eh ▸ hkp | (rw [eh] at hkp; exact hkp) | (rw [← eh] at hkp; exact hkp)
  rw [← eo] at hos
  have hlife : s'.heap.life = s.heap.life := (runN_life _ _ _ hrun).trans hal.2.2.2
  refine hGG ⟨vs, s₁, hlaid, k, _, s', hsched, ?_, (fun _ i x hx => by rw [hgens] at hx; simp at hx), hkp, by rw [hlife], Shared.rest_eq hos⟩
  clear hGG GG
  refine hide fun GG hGG => ?_
  rcases hcase with ⟨v, rfl, d1, d2, d3, d4, d5⟩ | ⟨e, ob, cls, rfl, d1, d2, d3, d4, d5⟩
  · exact hGG (.inl ⟨v, rfl, d1, d2, d3, fun b o y _ => d4 b o y, d5⟩)
  · exact hGG (.inr ⟨e, ob, cls, rfl, d1, d2, d3, d4, fun b o y _ => d5 b o y⟩)

theorem holds_N {r : OpenRow} {q : Program} {loose : List Str} {Xt : Shared → Bool} {XP : (Str → Option Value) → Heap → Prop} {α : Type} {Yf : Shared → α} {Ya : World → α} {YP : World → Heap → Prop} {d : DefRec} {kwd : List (Str × PySem.Expr)} {N : Nat}
    (left : LeftO r.prog q loose Xt Yf Ya N) (hY : ∀ w s, Yf s = Ya w → YP w s.heap) (hYk : ∀ w h h', YP w h → (∀ b o, h.get? b = some o → h'.get? b = some o) → YP w h')
    (hX : ∀ s, Xt s = true → XP (s.heap.nsMap mainGlobals) s.heap) (hXk : ∀ mg h h', XP mg h → (∀ b o, h.get? b = some o → h'.get? b = some o) → XP mg h')
    (hdef : defOf q r.name = some (d, kwd)) (hp : r.prog.theDef r.name = some (d.params, d.body, d.scope)) (hk : kwWritten? d.params.kwonlyargs d.params.kw_defaults = some kwd) (hRf : ∀ s, Xt s = true → RecFacts r.records s.heap) (hwr : (!r.writes || r.records.isEmpty) = true)
    (k1 : r.wellSaid = true) (ok : (chainsOk q && opensWell r.prog && (frees r.toRowW && r.within.isEmpty)) = true) (hb : r.prog.bare) (hw : r.toRowW.promised)
    (walk : WalkH q loose XP YP r.toRowW d kwd) : r.Holds := by
  refine ⟨k1, hw, ?_⟩
  obtain ⟨ok', k5⟩ := Bool.and_eq_true_iff.mp ok
  obtain ⟨hch, o1⟩ := Bool.and_eq_true_iff.mp ok'
  obtain ⟨k5, k6⟩ := Bool.and_eq_true_iff.mp k5
  obtain ⟨hsame, hu, ha, hap, hm⟩ := frees_parts k5
  refine ⟨⟨hb, o1, by show r.makers.map _ = []; rw [hm]; rfl⟩, hw.witness, fun w => ⟨(left.behind hX hch w).1, fun s' hs' => ?_⟩⟩
  obtain ⟨s₀, hf, hg0, s, hT, hz, hgens, hg, G00, y⟩ := (left.behind (XP := fun mg h => XP mg h ∧ RecFacts r.records h) (fun s hs => ⟨hX s hs, hRf s hs⟩) hch w).2 s' hs'
  have G0 : Ground q loose [] XP w s (s.heap.nsMap mainGlobals) (s.heap.nsMap builtinsNs) s.heap := ⟨G00.T, G00.B, G00.D, G00.TE, G00.TD, G00.W, G00.X.1, G00.cls, G00.has, G00.apart, G00.once, G00.K⟩
  have RF := G00.X.2
  have hT' := hT
  refine ⟨s₀, hf, hg0, s, hT, (fun n hn => ?_), RF.1, RF.2.1, ?_⟩
  · obtain rfl : n = r.name := by split at hn <;> simp_all
    exact pinned_of_view hg G0 hdef hp hk
  have hgens : s.gens = #[] := Array.eq_empty_of_size_eq_zero (beq_iff_eq.mp hgens)
  have G : Ground q loose r.records XP w s _ _ s.heap := RF.ground G0
  refine callFrom_N (c := r.claim) hz hgens fun args hpre hlay ord hord => ?_
  obtain ⟨⟨vs, s₁⟩, hlaid⟩ := Option.isSome_iff_exists.mp (layAllW_isSome (P := w.params) (ord := ord) G.has args r.args s (pre_splitW hpre).1)
  have keeps := layAllW_keeps _ _ _ hlaid
  have hal := layAllW_rest _ _ _ hlaid
  obtain ⟨as, hrd, hin, hold⟩ := reads_layAllW hord _ _ _ hlaid hlay s₁.heap (fun _ _ e => e)
  have L : Laid r.records w s s₁ args vs as := ⟨⟨ord, hord, hlaid⟩, hrd, hin, hold, keeps, hal.1.trans hgens, hal.2.2.1⟩
  have G₁ := G.keeps hXk keeps
  have Y₁ := hYk _ _ _ (hY w s y) keeps
  obtain ⟨a, o, pm, cd, doc, dV, kV, h1, h2, h3, h4, h5⟩ := G₁.fn hdef
  have h := walk w s s₁ _ _ G₁ Y₁ a o pm cd doc dV kV h2 h3 h4 h5 (defOf_name hdef ▸ h1) L.gens args vs as hpre hlay L.reads L.well (L.low G.low)
  have hi := ident_freeW hu ha hap
  have hwi : r.claim.within = [] := List.isEmpty_iff.mp k6
  refine ⟨vs, s₁, hlaid, ?_⟩
  refine N_abind (wpAny_nsGet G₁.T.g ?_)
  rw [h1]
  refine N_bind (N_mono h fun v s' g => N_pure ?_)
  have z := g.laid (c := r.claim) hsame hwi hi L
  exact ⟨_, rfl, z.1, z.2.1, z.2.2, fun q => ⟨namesKept_of hT' hg _ keeps g.2.1.old, noTable hwr q⟩⟩
end Mine
end
section
open PySem PySem.W PyProof.Rows PySem.Spec PySem.Calls PySem.Flt
set_option maxRecDepth 100000
set_option maxHeartbeats 2000000
namespace Mine
open Sem (wp)
open PySem.Builtin PySem.Builtin.Re
theorem tz_pa : PlainAttrs "re.Pattern" := ⟨by first | exact ⟨"object.__getattribute__", by rw [typeLookup_type, builtinLookup_eq_fast]; kernel_rfl, by decide +kernel⟩ | exact ⟨"re.Pattern.__getattribute__", by rw [typeLookup_type, builtinLookup_eq_fast]; kernel_rfl, by decide +kernel⟩, by rw [typeLookup_type, builtinLookup_eq_fast]; kernel_rfl⟩
theorem tz_slot_search : Slot "re.Pattern" "search" "re.Pattern.search" :=
  .of (owner := "re.Pattern") (n := "search") (by rw [typeLookup_type, builtinLookup_eq_fast]; kernel_rfl) (by decide +kernel) (by decide +kernel) (by decide +kernel)
    (by first | exact .inl (by decide +kernel) | exact .inr (by decide +kernel)) (by rw [isSubtype_type]; kernel_rfl)
theorem tz_ty_search : typeOf (.builtin "re.Pattern.search") = pure (.type "method_descriptor") := by kernel_rfl
theorem tz_entry_search : entryFor table "re.Pattern.search" = some Builtin.«re.Pattern.search» := entryFor_of_tree (by kernel_rfl)
theorem tz_args_search (a b : Value) : argsOk "re.Pattern.search" ⟨[a, b], []⟩ := by kernel_rfl
theorem tz_paM : PlainAttrs "re.Match" := ⟨by first | exact ⟨"object.__getattribute__", by rw [typeLookup_type, builtinLookup_eq_fast]; kernel_rfl, by decide +kernel⟩ | exact ⟨"re.Match.__getattribute__", by rw [typeLookup_type, builtinLookup_eq_fast]; kernel_rfl, by decide +kernel⟩, by rw [typeLookup_type, builtinLookup_eq_fast]; kernel_rfl⟩
theorem tz_slot_group : Slot "re.Match" "group" "re.Match.group" :=
  .of (owner := "re.Match") (n := "group") (by rw [typeLookup_type, builtinLookup_eq_fast]; kernel_rfl) (by decide +kernel) (by decide +kernel) (by decide +kernel)
    (by first | exact .inl (by decide +kernel) | exact .inr (by decide +kernel)) (by rw [isSubtype_type]; kernel_rfl)
theorem tz_ty_group : typeOf (.builtin "re.Match.group") = pure (.type "method_descriptor") := by kernel_rfl
theorem tz_entry_group : entryFor table "re.Match.group" = some Builtin.«re.Match.group» := entryFor_of_tree (by kernel_rfl)
theorem tz_args_group (a b : Value) : argsOk "re.Match.group" ⟨[a, b], []⟩ := by kernel_rfl
/- the machine, by turns of four steps -/
noncomputable def reTurns : Nat → Sre.M → Option Sre.M
  | 0, _ => none
  | n + 1, m => match (m.runFor reTurnSteps).outcome with
    | some _ => some (m.runFor reTurnSteps)
    | none => reTurns n (m.runFor reTurnSteps)
section
variable {prog : Program} {w : World} {A : Around} {E : Value → Shared → Prop} {s : Shared}
theorem re_drive {M : Model} {Q : Sre.M → Shared → Prop} : ∀ (n k : Nat) (m m' : Sre.M), n ≤ k → reTurns n m = some m' → Q m' s → wpAny M A (reDrive k m) Q E s
  | 0, _, _, _, _, h, _ => by cases h
  | n + 1, 0, _, _, hk, _, _ => by omega
  | n + 1, k + 1, m, m', hk, h, hq => by
    unfold reTurns at h
    show wpAny M A (if (m.runFor reTurnSteps).outcome.isSome = true then pure (m.runFor reTurnSteps) else (do rule "sre.turn"; reDrive k (m.runFor reTurnSteps))) Q E s
    cases ho : (m.runFor reTurnSteps).outcome with
    | some o =>
      rw [ho] at h
      cases h
      exact wpAny_ite (by rw [if_pos (by rfl)]; exact wpAny_pure hq)
    | none =>
      rw [ho] at h
      refine wpAny_ite (by rw [if_neg (by simp)]; exact wpAny_bind (wpAny_rule (re_drive n k _ m' (by omega) h hq)))
theorem re_runs {M : Model} {m m' : Sre.M} {n : Nat} {Q : Option Sre.M → Shared → Prop} (hn : n ≤ 2 ^ 64) (h : reTurns n m = some m') (ho : m'.outcome = some .matched) (hq : Q (some m') s) : wpAny M A (reRunToEnd m) Q E s := by
  unfold reRunToEnd
  refine wpAny_bind (re_drive n _ m m' hn h ?_)
  refine wpAny_bind (wpAny_forIn_list (E := E) _ (fun _ _ s' => s' = s) _ ?_ ?_ _ _ rfl)
  · rintro x rest b s' rfl
    refine wpAny_ite ?_
    split
    · exact wpAny_bind (wpAny_rule (wpAny_pure rfl))
    · exact wpAny_pure rfl
  · rintro b s' rfl
    rw [ho]
    exact wpAny_pure hq
/- pattern.search(text), the machine having found -/
theorem re_search {P C : Addr} {oP oC : Obj} {fs cs : Array Value} {n : Nat} {x : Str} {t u6 u2 : Tok} {m' : Sre.M} {k : Nat} {g : Nat} {sp : List Value} {Q : Value → Shared → Prop}
    (hP : s.heap.get? P = some oP) (hcP : oP.cls = .type "re.Pattern") (hdP : oP.data = .fields fs) (hC : s.heap.get? C = some oC) (hdC : oC.data = .seq cs n)
    (f2 : fs.getD 2 .none = .int (g : Int) u2) (f5 : fs.getD 5 .none = .ref C) (f6 : fs.getD 6 .none = .int 0 u6) (hx : x.cps.size ≤ 2 ^ 63 - 1)
    (hk : k ≤ 2 ^ 64) (hrun : reTurns k (Sre.forSearch ((cs.map reRawOf).map (·.toNat)) x.cps g 0 x.cps.size false) = some m') (ho : m'.outcome = some .matched)
    (hsp : ((List.range g).flatMap fun g =>
        match if ((2 * g + 1 : Nat) : Int) ≤ m'.lastmark then (m'.marks.getD (2 * g) none, m'.marks.getD (2 * g + 1) none) else (none, none) with
        | (some b, some e) => [rawInt b, rawInt e]
        | _ => [rawInt (-1), rawInt (-1)]) = sp)
    (hw : ((List.range g).any (fun g => match m'.marks.getD (2 * g) none, m'.marks.getD (2 * g + 1) none with | some b, some e => ((2 * g + 1 : Nat) : Int) ≤ m'.lastmark && e < b | _, _ => false)) = false)
    (hl : sp.length ≤ 100)
    (hQ : Q (.ref (s.heap.objs.size + 1)) { s with heap := (s.heap.push { cls := .type "tuple", data := .seq (rawInt m'.start :: rawInt m'.handed :: sp).toArray }).push { cls := .type "re.Match", data := .fields #[.str x t, .ref P, rawInt 0, rawInt x.cps.size, rawInt m'.lastindex, .ref s.heap.objs.size] } }) :
    wpAny (model prog w) A (call (.builtin "re.Pattern.search") [.ref P, .str x t]) Q E s := by
  have hT : s.TypeIs (.ref P) "re.Pattern" := ⟨_, hP, hcP⟩
  refine wpAny_call_entry tz_slot_search hT tz_entry_search ?_ (tz_args_search _ _)
  unfold Builtin.«re.Pattern.search»
  refine wpAny_bind ?_
  unfold reTarget
  refine wpAny_bind (wpAny_of_eq (a := [some (.str x t), none, none]) (by kernel_rfl) ?_)
  dsimp only
  refine wpAny_bind (wpAny_pure ?_)
  refine wpAny_bind (wpAny_pure ?_)
  refine wpAny_bind (wpAny_fieldsOf hP hdP ?_)
  refine wpAny_bind (wpAny_of_eq (a := (x.cps, 0)) rfl ?_)
  dsimp only
  have hg : reRawNat (fs.getD 2 Value.none) = g := by rw [f2]; rfl
  rw [f6, f5, hg]
  refine bm_if_false rfl ?_
  refine bm_if_false rfl ?_
  refine wpAny_bind (wpAny_of_eq (a := ()) rfl ?_)
  refine wpAny_bind ?_
  unfold reRawItems
  refine wpAny_bind (wpAny_seqItems hC hdC (wpAny_pure (wpAny_pure ?_)))
  have e1 : Min.min (Int.toNat 0) x.cps.size = 0 := by simp
  have e2 : Min.min ((2 ^ 63 - 1 : Int)).toNat x.cps.size = x.cps.size := by
    have : ((2 ^ 63 - 1 : Int)).toNat = 2 ^ 63 - 1 := by decide
    omega
  rw [e1, e2]
  unfold reAnswer
  dsimp only
  refine wpAny_bind (re_runs hk hrun ho ?_)
  dsimp only
  refine wpAny_bind ?_
  unfold reNewMatch
  dsimp only
  subst hsp
  refine bm_if_false hw ?_
  refine wpAny_bind ?_
  unfold newTuple
  refine wpAny_newObj_type ?_ (Nat.le_trans (m := 102) (by show List.length (_ :: _ :: _) ≤ 102; rw [List.length_cons, List.length_cons]; exact Nat.add_le_add_right hl 2) (by decide))
  unfold newFields
  refine wpAny_newObj_type (wpAny_pure ⟨_, rfl, ?_⟩) (by size_fits)
  have hz := Heap.size_push s.heap { cls := .type "tuple", data := .seq (rawInt m'.start :: rawInt m'.handed :: ((List.range g).flatMap fun g =>
        match if ((2 * g + 1 : Nat) : Int) ≤ m'.lastmark then (m'.marks.getD (2 * g) none, m'.marks.getD (2 * g + 1) none) else (none, none) with
        | (some b, some e) => [rawInt b, rawInt e]
        | _ => [rawInt (-1), rawInt (-1)])).toArray }
  rw [← hz] at hQ
  exact hQ
end
end Mine
end
section
open PySem PySem.W PyProof.Rows PySem.Spec PySem.Calls PySem.Flt
set_option maxRecDepth 100000
set_option maxHeartbeats 2000000
namespace Mine
open Sem (wp)
open PySem.Builtin PySem.Builtin.Re
section
variable {prog : Program} {w : World} {A : Around} {E : Value → Shared → Prop} {s : Shared}
theorem re_group {M T : Addr} {oM oT : Obj} {fs its : Array Value} {n i : Nat} {x : Str} {t u : Tok} {b e : Int} {Q : Value → Shared → Prop}
    (hM : s.heap.get? M = some oM) (hcM : oM.cls = .type "re.Match") (hdM : oM.data = .fields fs) (hT : s.heap.get? T = some oT) (hdT : oT.data = .seq its n)
    (f0 : fs.getD 0 .none = .str x t) (f5 : fs.getD 5 .none = .ref T) (hi : 2 * i < its.size) (hb : (its.map reRawOf).getD (2 * i) (-1) = b) (he : (its.map reRawOf).getD (2 * i + 1) (-1) = e) (hx : x.cps.size ≤ 1000)
    (h : if b < 0 ∨ e < 0 then Q .none s else Q (.str ⟨x.cps.extract b.toNat e.toNat⟩ s.toks) { s with toks := s.toks + 1 }) :
    wpAny (model prog w) A (call (.builtin "re.Match.group") [.ref M, .int (i : Int) u]) Q E s := by
  have hTy : s.TypeIs (.ref M) "re.Match" := ⟨_, hM, hcM⟩
  refine wpAny_call_entry tz_slot_group hTy tz_entry_group ?_ (tz_args_group _ _)
  unfold Builtin.«re.Match.group»
  refine wpAny_bind (wpAny_of_eq (a := ()) rfl ?_)
  dsimp only
  refine wpAny_bind ?_
  unfold reFound
  refine wpAny_bind (wpAny_fieldsOf hM hdM ?_)
  rw [f5]
  refine wpAny_bind ?_
  unfold reRawItems
  refine wpAny_bind (wpAny_seqItems hT hdT (wpAny_pure (wpAny_pure ?_)))
  refine wpAny_bind (wpAny_of_eq (a := i) ?_ ?_)
  · unfold reGroupNumber
    show (if (decide ((i : Int) < 0) || decide (2 * (i : Int) ≥ ((its.map reRawOf).size : Int))) = true then _ else _) = _
    rw [if_neg (by rw [Array.size_map]; simp; omega)]
    rfl
  refine wpAny_bind ?_
  unfold reGroupText
  show wpAny _ _ (if (decide ((its.map reRawOf).getD (2 * i) (-1) < 0) || decide ((its.map reRawOf).getD (2 * i + 1) (-1) < 0)) = true then _ else _) _ _ _
  rw [hb, he]
  by_cases hn : b < 0 ∨ e < 0
  · rw [if_pos hn] at h
    rw [if_pos (by simpa using hn)]
    exact wpAny_pure (wpAny_pure ⟨_, rfl, h⟩)
  · rw [if_neg hn] at h
    rw [if_neg (by simpa using hn)]
    show wpAny _ _ (reTextOf (fs.getD 0 .none) >>= _) _ _ _
    rw [f0]
    refine wpAny_bind (wpAny_of_eq (a := (x.cps, 0)) rfl ?_)
    show wpAny _ _ (reSlice x.cps 0 ((its.map reRawOf).getD (2 * i) (-1)).toNat ((its.map reRawOf).getD (2 * i + 1) (-1)).toNat) _ _ _
    rw [hb, he]
    show wpAny _ _ (mkStr ⟨x.cps.extract b.toNat e.toNat⟩) _ _ _
    refine wpAny_mkStr (wpAny_pure ⟨_, rfl, h⟩) ?_
    show (x.cps.extract b.toNat e.toNat).size ≤ sizeLine
    rw [Array.size_extract]
    unfold sizeLine; omega
end
end Mine
end
section
open PySem PySem.W PyProof.Rows PySem.Spec PySem.Calls PySem.Flt
set_option maxRecDepth 100000
set_option maxHeartbeats 2000000
namespace Mine
open Sem (wp)
open PySem.Builtin PySem.Builtin.Re
section
variable {M : Model} {A : Around} {E : Value → Shared → Prop} {s : Shared} {h₀ : Heap} {L a : Addr} {m : Str → Option Value} {news : List (Addr × Obj)} {K : Frag}
theorem getMethod_base {T : String} {name : Str} {id : String} {pl : Sem Bool} {Q : Value × List Value → Shared → Prop} {dt : Data} {osl : Array (Option Value)} (F : Fr h₀ L s.heap m) (X : K.In h₀) (ho : K.lookup a = some ⟨.type T, none, dt, osl⟩) (pa : PlainAttrs T)
    (slot : Slot T name id) (hty : typeOf (.builtin id) = pure (.type "method_descriptor")) (h : Q (.builtin id, [.ref a]) s) : wpAny M A (getMethod (.ref a) name pl) Q E s :=
  getMethod_builtin ⟨_, F.keep _ _ (X _ _ ho), rfl⟩ pa slot hty (fun b e => by cases e; exact ⟨_, F.keep _ _ (X _ _ ho), rfl⟩) h
theorem getMethod_news {T : String} {name : Str} {id : String} {pl : Sem Bool} {Q : Value × List Value → Shared → Prop} {dt : Data} (N : News h₀ L s.heap news) (hm : (a, ({ cls := .type T, data := dt } : Obj)) ∈ news) (pa : PlainAttrs T)
    (slot : Slot T name id) (hty : typeOf (.builtin id) = pure (.type "method_descriptor")) (h : Q (.builtin id, [.ref a]) s) : wpAny M A (getMethod (.ref a) name pl) Q E s :=
  getMethod_builtin ⟨_, (N _ hm).1, rfl⟩ pa slot hty (fun b e => by cases e; exact ⟨_, (N _ hm).1, rfl⟩) h
end
/- what a run of the machine shows -/
noncomputable def reShow (g : Nat) (m : Sre.M) : Option Sre.Outcome × Nat × Nat × Int × List Value × Bool :=
  (m.outcome, m.start, m.handed, m.lastindex, (List.range g).flatMap (fun g =>
        match if ((2 * g + 1 : Nat) : Int) ≤ m.lastmark then (m.marks.getD (2 * g) none, m.marks.getD (2 * g + 1) none) else (none, none) with
        | (some b, some e) => [rawInt b, rawInt e]
        | _ => [rawInt (-1), rawInt (-1)]),
    (List.range g).any (fun g => match m.marks.getD (2 * g) none, m.marks.getD (2 * g + 1) none with | some b, some e => ((2 * g + 1 : Nat) : Int) ≤ m.lastmark && e < b | _, _ => false))
noncomputable abbrev matchOf (x : Str) (t : Tok) (P T : Addr) (li : Int) : Obj := { cls := .type "re.Match", data := .fields #[.str x t, .ref P, rawInt 0, rawInt x.cps.size, rawInt li, .ref T] }
noncomputable abbrev spansOf (st hd : Nat) (sp : List Value) : Obj := { cls := .type "tuple", data := .seq (rawInt st :: rawInt hd :: sp).toArray }
section
variable {prog : Program} {w : World} {A : Around} {E : Value → Shared → Prop} {s : Shared} {h₀ : Heap} {L : Addr} {m : Str → Option Value} {news : List (Addr × Obj)} {K : Frag}
theorem re_searchK {P C : Addr} {fs cs : Array Value} {n : Nat} {oc2 : Value} {od1 od2 : Option Addr} {osl osl2 : Array (Option Value)} {x : Str} {t u6 u2 : Tok} {k g st hd : Nat} {li : Int} {sp : List Value} {code : Array Nat} {Q : Value → Shared → Prop}
    (F : Fr h₀ L s.heap m) (N : News h₀ L s.heap news) (X : K.In h₀)
    (hP : K.lookup P = some ⟨.type "re.Pattern", od1, .fields fs, osl⟩) (hC : K.lookup C = some ⟨oc2, od2, .seq cs n, osl2⟩)
    (f2 : fs.getD 2 .none = .int (g : Int) u2) (f5 : fs.getD 5 .none = .ref C) (f6 : fs.getD 6 .none = .int 0 u6) (hcode : (cs.map reRawOf).map (·.toNat) = code) (hx : x.cps.size ≤ 2 ^ 63 - 1)
    (hk : k ≤ 2 ^ 64) (hrun : (reTurns k (Sre.forSearch code x.cps g 0 x.cps.size false)).map (reShow g) = some (some .matched, st, hd, li, sp, false)) (hl : sp.length ≤ 100)
    (hQ : ∀ M T h', Fr h₀ L h' m → News h₀ L h' ((M, matchOf x t P T li) :: (T, spansOf st hd sp) :: news) → (∀ q ∈ news, q.1 < T) → T < M → Q (.ref M) { s with heap := h' }) :
    wpAny (model prog w) A (call (.builtin "re.Pattern.search") [.ref P, .str x t]) Q E s := by
  obtain ⟨m', hm, hs⟩ := Option.map_eq_some_iff.mp hrun
  simp only [reShow, Prod.mk.injEq] at hs
  obtain ⟨e1, e2, e3, e4, e5, e6⟩ := hs
  subst hcode e2 e3 e4
  refine re_search (F.keep _ _ (X _ _ hP)) rfl rfl (F.keep _ _ (X _ _ hC)) rfl f2 f5 f6 hx hk hm e1 e5 e6 hl ?_
  have kp : ∀ b o, s.heap.get? b = some o → ((s.heap.push (spansOf m'.start m'.handed sp)).push (matchOf x t P s.heap.objs.size m'.lastindex)).get? b = some o := fun b o e => Heap.get?_push_of_some _ (Heap.get?_push_of_some _ e)
  have hsz : (s.heap.push (spansOf m'.start m'.handed sp)).objs.size = s.heap.objs.size + 1 := Heap.size_push ..
  have none₀ : ∀ a, s.heap.objs.size ≤ a → h₀.get? a = none := fun a ha => by
    cases e : h₀.get? a with
    | none => rfl
    | some o => exact absurd (Heap.lt_size (F.keep _ _ e)) (Nat.not_lt.mpr ha)
  have hL := F.ns.lt
  refine hQ (s.heap.objs.size + 1) s.heap.objs.size _ (F.grownK kp) ?_ (fun q hq => Heap.lt_size (N q hq).1) (Nat.lt_succ_self _)
  intro q hq
  rcases List.mem_cons.mp hq with rfl | hq
  · exact ⟨by rw [← hsz]; exact Heap.get?_push_size _ rfl, Nat.ne_of_gt (Nat.lt_succ_of_lt hL), none₀ _ (Nat.le_succ _)⟩
  · rcases List.mem_cons.mp hq with rfl | hq
    · exact ⟨Heap.get?_push_of_some _ (Heap.get?_push_size _ rfl), Nat.ne_of_gt hL, none₀ _ (Nat.le_refl _)⟩
    · exact N.grown kp q hq
theorem re_groupK {M T P : Addr} {x : Str} {t u : Tok} {st hd i : Nat} {li b e : Int} {sp : List Value} {Q : Value → Shared → Prop} (N : News h₀ L s.heap news)
    (hM : (M, matchOf x t P T li) ∈ news) (hT : (T, spansOf st hd sp) ∈ news) (hi : 2 * i < ((rawInt st :: rawInt hd :: sp).toArray).size) (hb : ((rawInt st :: rawInt hd :: sp).toArray.map reRawOf).getD (2 * i) (-1) = b) (he : ((rawInt st :: rawInt hd :: sp).toArray.map reRawOf).getD (2 * i + 1) (-1) = e) (hx : x.cps.size ≤ 1000)
    (h : if b < 0 ∨ e < 0 then Q .none s else Q (.str ⟨x.cps.extract b.toNat e.toNat⟩ s.toks) { s with toks := s.toks + 1 }) :
    wpAny (model prog w) A (call (.builtin "re.Match.group") [.ref M, .int (i : Int) u]) Q E s :=
  re_group (N _ hM).1 rfl rfl (N _ hT).1 rfl rfl rfl hi hb he hx h
end
noncomputable abbrev tzCode : Array Nat := #[14, 4, 0, 1, 6, 6, 0, 23, 14, 0, 1, 17, 0, 13, 6, 16, 45, 16, 43, 0, 17, 1, 18, 17, 2, 13, 4, 8, 0, 0, 24, 9, 0, 1, 13, 4, 8, 0, 0, 1, 17, 3, 24, 6, 0, 1, 16, 58, 1, 23, 17, 0, 1, 17, 4, 13, 4, 8, 0, 0, 13, 4, 8, 0, 0, 17, 5, 18, 6, 5, 1]
end Mine
end
section
open PySem PySem.W PyProof.Rows PySem.Spec PySem.Calls PySem.Flt
set_option maxRecDepth 100000
set_option maxHeartbeats 2000000
namespace Mine
theorem tz_no_bool : typeLookup (.type "re.Match") "__bool__" = pure none := by rw [typeLookup_type, builtinLookup_eq_fast]; kernel_rfl
theorem tz_no_len : typeLookup (.type "re.Match") "__len__" = pure none := by rw [typeLookup_type, builtinLookup_eq_fast]; kernel_rfl
theorem truthy_match {M : Model} {A : Around} {E : Value → Shared → Prop} {s : Shared} {h₀ : Heap} {L a : Addr} {news : List (Addr × Obj)} {dt : Data} {Q : Bool → Shared → Prop} (N : News h₀ L s.heap news) (hm : (a, ({ cls := .type "re.Match", data := dt } : Obj)) ∈ news) (h : Q true s) :
    wpAny M A (truthy (.ref a)) Q E s := by
  have hT : s.TypeIs (.ref a) "re.Match" := ⟨_, (N _ hm).1, rfl⟩
  unfold truthy
  dsimp only
  refine wpAny_bind ?_
  unfold callSpecial?
  refine wpAny_bind (wpAny_specialOf hT tz_no_bool ?_)
  refine wpAny_pure ?_
  dsimp only
  refine wpAny_bind (wpAny_specialOf hT tz_no_len ?_)
  exact wpAny_pure h
end Mine
end
section
open PySem PySem.W PyProof.Rows PySem.Spec PySem.Calls PySem.Flt
set_option maxRecDepth 100000
set_option maxHeartbeats 0
namespace Mine
theorem pad_of_P4 : True := by
  w_top off
  trivial
open PySem.Builtin PySem.Builtin.Re
/- a group of a match by its spans -/
noncomputable def grpOf (x : Str) (st hd : Nat) (sp : List Value) (i : Nat) : Option Str :=
  if ((rawInt st :: rawInt hd :: sp).toArray.map reRawOf).getD (2 * i) (-1) < 0 ∨ ((rawInt st :: rawInt hd :: sp).toArray.map reRawOf).getD (2 * i + 1) (-1) < 0 then none
  else some ⟨x.cps.extract (((rawInt st :: rawInt hd :: sp).toArray.map reRawOf).getD (2 * i) (-1)).toNat (((rawInt st :: rawInt hd :: sp).toArray.map reRawOf).getD (2 * i + 1) (-1)).toNat⟩
section
variable {prog : Program} {w : World} {A : Around} {E : Value → Shared → Prop} {s : Shared} {h₀ : Heap} {L : Addr} {news : List (Addr × Obj)} {M T P : Addr} {x g : Str} {t u : Tok} {st hd : Nat} {v li : Int} {sp : List Value} {Q : Value → Shared → Prop}
theorem re_group1 (N : News h₀ L s.heap news) (hM : (M, matchOf x t P T li) ∈ news) (hT : (T, spansOf st hd sp) ∈ news) (hv : ((v.toNat : Nat) : Int) = v) (hi : v.toNat ≤ 3) (hl : sp.length = 6) (hx : x.cps.size ≤ 1000) (hg : grpOf x st hd sp v.toNat = some g)
    (h : Q (.str g s.toks) { s with toks := s.toks + 1 }) : wpAny (model prog w) A (call (.builtin "re.Match.group") [.ref M, .int v u]) Q E s := by
  rw [← hv]
  refine re_groupK N hM hT (by show 2 * v.toNat < (rawInt st :: rawInt hd :: sp).length; rw [List.length_cons, List.length_cons, hl]; omega) rfl rfl hx ?_
  unfold grpOf at hg
  split at hg
  · cases hg
  · rename_i hc
    rw [if_neg hc]
    cases hg
    exact h
theorem re_group0 (N : News h₀ L s.heap news) (hM : (M, matchOf x t P T li) ∈ news) (hT : (T, spansOf st hd sp) ∈ news) (hv : ((v.toNat : Nat) : Int) = v) (hi : v.toNat ≤ 3) (hl : sp.length = 6) (hx : x.cps.size ≤ 1000) (hg : grpOf x st hd sp v.toNat = none)
    (h : Q .none s) : wpAny (model prog w) A (call (.builtin "re.Match.group") [.ref M, .int v u]) Q E s := by
  rw [← hv]
  refine re_groupK N hM hT (by show 2 * v.toNat < (rawInt st :: rawInt hd :: sp).length; rw [List.length_cons, List.length_cons, hl]; omega) rfl rfl hx ?_
  unfold grpOf at hg
  split at hg
  · rename_i hc
    rw [if_pos hc]
    exact h
  · cases hg
end
/- a text that is a zone: its groups, the number of its second one -/
inductive TzT (w : World) (t : Str) (g1 g3 : Option Str) (n : Int) : Prop
  | mk (st en : Nat) (li : Int) (sp : List Value) (g2 : Str) (hrun : (reTurns 100 (Sre.forSearch tzCode t.cps 3 0 t.cps.size false)).map (reShow 3) = some (some .matched, st, en, li, sp, false)) (hl : sp.length = 6) (hx : t.cps.size ≤ 1000)
    (h1 : grpOf t st en sp 1 = g1) (h2 : grpOf t st en sp 2 = some g2) (h3 : grpOf t st en sp 3 = g3) (hi : PySem.intText? g2 = some n) (hz : g2.length ≤ 640) (hn : nsIn (hd.heap_39 w.params) 53 t = some none) (hb : 0 ≤ n ∧ n ≤ 24) : TzT w t g1 g3 n
theorem fillp4 : (hd.heap_39 = hd.heap_39) ∧ (PySem.Challenge.rw_zo0002_01 = PySem.Challenge.rw_zo0002_01) := by
  k_fill
  exact ⟨rfl, rfl⟩
local macro_rules | `(tactic| walk_at "V") => `(tactic| first | with_reducible assumption | (refine (if_neg (by decide)).trans ?_; walk_at "V") | rfl)
local macro_rules | `(tactic| walk_at "getMethod ref") => `(tactic| (k_here; k_dflt (first
  | (refine getMethod_base (by k_asm) (by k_asm) (by k_is) tz_pa tz_slot_search tz_ty_search ?_)
  | (refine getMethod_news (by k_asm) (by first | assumption | k_mem) tz_paM tz_slot_group tz_ty_group ?_))))
local macro_rules | `(tactic| walk_at $k:str) => tbl [("eval Name", false, [(``nameX_L, "A V ? R R"), (``nameX_K, "A A A I ? R R")]),
  ("call builtin:re.Match.group", true, [(``re_group1, "A SM SM E D S S S ?"), (``re_group0, "A SM SM E D S S S ?")]), ("truthy ref", true, [(``truthy_match, "A SM ?")]), ("compareOp In str ref", true, [(``topIn_K, "A A I k S D ?")]), ("call type:int", true, [(``KIN.call_text, "S S ?")])] k
/- where the frame stands behind the match -/
inductive TzS (x : Str) (t1 : Tok) (M P T : Addr) (st en : Nat) (li : Int) (sp : List Value) (v : Int) (m : Str → Option Value) (Z : List (Addr × Obj)) : Prop
  | mk (u : Tok) (hm : m (Str.ofString "m") = some (.ref M)) (ho : m (Str.ofString "offset") = some (.int v u)) (h1 : (M, matchOf x t1 P T li) ∈ Z) (h2 : (T, spansOf st en sp) ∈ Z) : TzS x t1 M P T st en li sp v m Z
set_option maxHeartbeats 1000000 in
theorem tzg (w : World) (x : Str) (n : Int) (t1 : Tok) {g1 g3 : Option Str} (h1 : g1 = none ∨ g1 = some (Str.ofString "+") ∨ g1 = some (Str.ofString "-")) (h3 : g3 = none ∨ g3 = some (Str.ofString "00")) (H : TzT w x g1 g3 n) : CtrB w 1 65 [.str x t1] (fun _ => True) (fun _ _ v => ∃ t, v = .int (if g1 = some (Str.ofString "-") then -(3600 * n) else 3600 * n) t) := by
  obtain ⟨st, en, li, sp, g2, hrun, hl, hx, q1, q2, q3, hi, hz, hn, hb⟩ := H
  refine' CtrB.body [(Str.ofString "tz", .str x t1)] ?k6 ?k7 ?k9 ?kB (Nat.le_refl _) ?c2 ?c3 ?c4 ?c5 ?_
  case k6 => k_is
  case k7 => k_is
  case k9 => intro _; exact BindsTo.of_eq rfl
  case kB => exact locs rfl
  case c2 => exact rfl
  case c3 => exact rfl
  case c4 => exact rfl
  case c5 => decide
  intro κ mean mg mb base s L' h' tk' Q E hdp hu hc F' B' X' T' hret
  have N' : News s.heap L' h' [] := fun _ h => nomatch h
  (try dsimp only)
  repeat (fail_if_success (with_reducible show wpAny _ _ (call (Value.builtin _) _) _ _ _)); walk1
  refine' re_searchK (code := tzCode) (k := 100) ?k1 ?k2 ?k3 ?k4 ?k5 ?k6 ?k7 ?k8 ?k9 ?ka ?kb hrun ?kd ?_
  case k1 => k_asm
  case k2 => k_asm
  case k3 => k_asm
  case k4 => k_is
  case k6 => exact rfl
  case k7 => exact rfl
  case k8 => exact rfl
  case k5 => k_is
  case k9 => kernel_rfl
  case ka => omega
  case kb => decide
  case kd => omega
  intro M T h9 F9 N9 l1 l2
  clear hrun hn l1 l2
  repeat (fail_if_success (with_reducible show wpAny _ _ (execs (Stmt.Assign _ (PySem.Expr.BinOp _ Operator.Mult _ _) _ :: _) _) _ _ _)); walk1
  rename Fr s.heap _ _ _ => F8
  rename News s.heap _ _ _ => N8
  refine W_part (LSt L' (fun m Z => TzS x t1 M 58 T st en li sp (3600 * n) m Z) s) 1 ?p1 ?_
  case p1 =>
    intro Qs hQs hQr
    clear hQr hret q1 q3
    (try dsimp only [List.take])
    k_steps
    rename Fr s.heap _ _ _ => F9
    rename News s.heap _ _ _ => N9
    exact hQs _ ⟨_, _, _, _, F9, N9, _, rfl, rfl, .head _, .tail _ (.head _)⟩
  clear F8 N8 q2 hi hz
  refine LSt.all fun h tk m1 Z F2 N2 => ?_
  rintro ⟨u, hm, ho, m1, m2⟩
  refine W_part (LSt L' (fun m Z => TzS x t1 M 58 T st en li sp (3600 * n) m Z) s) 1 ?p2 ?_
  case p2 =>
    intro Qs hQs hQr
    clear hQr hret q1 h1
    (try dsimp only [List.take, List.drop])
    rcases h3 with rfl | rfl
    · k_steps
      exact hQs _ ⟨_, _, _, _, F2, N2, _, hm, ho, m1, m2⟩
    · k_steps
      rename Fr s.heap _ _ _ => F9
      rename News s.heap _ _ _ => N9
      exact hQs _ ⟨_, _, _, _, F9, N9, _, (if_neg (by decide)).trans hm, (if_pos rfl).trans (congrArg (fun q => some (Value.int q _)) (by omega)), m1, m2⟩
  clear F2 N2 hm ho m1 m2 h3 q3
  refine LSt.all fun h tk m1 Z F2 N2 => ?_
  rintro ⟨u, hm, ho, m1, m2⟩
  (try dsimp only [List.drop])
  rcases h1 with rfl | rfl | rfl
  all_goals
    k_steps
    rename Fr s.heap _ _ _ => F9
    exact hret _ _ _ _ F9 ⟨_, rfl⟩
end Mine
end
section
open PySem PySem.W PyProof.Rows PySem.Spec PySem.Calls PySem.Flt
set_option maxRecDepth 100000
set_option maxHeartbeats 2000000
namespace Mine
open PySem.Builtin PySem.Builtin.Re
theorem tzr0 : (reTurns 100 (Sre.forSearch tzCode (Str.ofString "+04:00").cps 3 0 (Str.ofString "+04:00").cps.size false)).map (reShow 3) = some (some .matched, 0, 6, 3, [rawInt 0, rawInt 1, rawInt 1, rawInt 3, rawInt 4, rawInt 6], false) := by kernel_rfl
theorem tzr1 : (reTurns 100 (Sre.forSearch tzCode (Str.ofString "+08:00").cps 3 0 (Str.ofString "+08:00").cps.size false)).map (reShow 3) = some (some .matched, 0, 6, 3, [rawInt 0, rawInt 1, rawInt 1, rawInt 3, rawInt 4, rawInt 6], false) := by kernel_rfl
theorem tzr2 : (reTurns 100 (Sre.forSearch tzCode (Str.ofString "+12:00").cps 3 0 (Str.ofString "+12:00").cps.size false)).map (reShow 3) = some (some .matched, 0, 6, 3, [rawInt 0, rawInt 1, rawInt 1, rawInt 3, rawInt 4, rawInt 6], false) := by kernel_rfl
theorem tzr3 : (reTurns 100 (Sre.forSearch tzCode (Str.ofString "+16:00").cps 3 0 (Str.ofString "+16:00").cps.size false)).map (reShow 3) = some (some .matched, 0, 6, 3, [rawInt 0, rawInt 1, rawInt 1, rawInt 3, rawInt 4, rawInt 6], false) := by kernel_rfl
theorem tzr4 : (reTurns 100 (Sre.forSearch tzCode (Str.ofString "+20:00").cps 3 0 (Str.ofString "+20:00").cps.size false)).map (reShow 3) = some (some .matched, 0, 6, 3, [rawInt 0, rawInt 1, rawInt 1, rawInt 3, rawInt 4, rawInt 6], false) := by kernel_rfl
theorem tzr5 : (reTurns 100 (Sre.forSearch tzCode (Str.ofString "-2000").cps 3 0 (Str.ofString "-2000").cps.size false)).map (reShow 3) = some (some .matched, 0, 5, 3, [rawInt 0, rawInt 1, rawInt 1, rawInt 3, rawInt 3, rawInt 5], false) := by kernel_rfl
theorem tzr6 : (reTurns 100 (Sre.forSearch tzCode (Str.ofString "-1600").cps 3 0 (Str.ofString "-1600").cps.size false)).map (reShow 3) = some (some .matched, 0, 5, 3, [rawInt 0, rawInt 1, rawInt 1, rawInt 3, rawInt 3, rawInt 5], false) := by kernel_rfl
theorem tzr7 : (reTurns 100 (Sre.forSearch tzCode (Str.ofString "-1200").cps 3 0 (Str.ofString "-1200").cps.size false)).map (reShow 3) = some (some .matched, 0, 5, 3, [rawInt 0, rawInt 1, rawInt 1, rawInt 3, rawInt 3, rawInt 5], false) := by kernel_rfl
theorem tzr8 : (reTurns 100 (Sre.forSearch tzCode (Str.ofString "-0800").cps 3 0 (Str.ofString "-0800").cps.size false)).map (reShow 3) = some (some .matched, 0, 5, 3, [rawInt 0, rawInt 1, rawInt 1, rawInt 3, rawInt 3, rawInt 5], false) := by kernel_rfl
theorem tzr9 : (reTurns 100 (Sre.forSearch tzCode (Str.ofString "-0400").cps 3 0 (Str.ofString "-0400").cps.size false)).map (reShow 3) = some (some .matched, 0, 5, 3, [rawInt 0, rawInt 1, rawInt 1, rawInt 3, rawInt 3, rawInt 5], false) := by kernel_rfl
theorem tzr10 : (reTurns 100 (Sre.forSearch tzCode (Str.ofString "4").cps 3 0 (Str.ofString "4").cps.size false)).map (reShow 3) = some (some .matched, 0, 1, 2, [rawInt (-1), rawInt (-1), rawInt 0, rawInt 1, rawInt (-1), rawInt (-1)], false) := by kernel_rfl
theorem tzr11 : (reTurns 100 (Sre.forSearch tzCode (Str.ofString "8").cps 3 0 (Str.ofString "8").cps.size false)).map (reShow 3) = some (some .matched, 0, 1, 2, [rawInt (-1), rawInt (-1), rawInt 0, rawInt 1, rawInt (-1), rawInt (-1)], false) := by kernel_rfl
theorem tzr12 : (reTurns 100 (Sre.forSearch tzCode (Str.ofString "12").cps 3 0 (Str.ofString "12").cps.size false)).map (reShow 3) = some (some .matched, 0, 2, 2, [rawInt (-1), rawInt (-1), rawInt 0, rawInt 2, rawInt (-1), rawInt (-1)], false) := by kernel_rfl
theorem tzr13 : (reTurns 100 (Sre.forSearch tzCode (Str.ofString "16").cps 3 0 (Str.ofString "16").cps.size false)).map (reShow 3) = some (some .matched, 0, 2, 2, [rawInt (-1), rawInt (-1), rawInt 0, rawInt 2, rawInt (-1), rawInt (-1)], false) := by kernel_rfl
theorem tzr14 : (reTurns 100 (Sre.forSearch tzCode (Str.ofString "20").cps 3 0 (Str.ofString "20").cps.size false)).map (reShow 3) = some (some .matched, 0, 2, 2, [rawInt (-1), rawInt (-1), rawInt 0, rawInt 2, rawInt (-1), rawInt (-1)], false) := by kernel_rfl
theorem tzr15 : (reTurns 100 (Sre.forSearch tzCode (Str.ofString "-20:").cps 3 0 (Str.ofString "-20:").cps.size false)).map (reShow 3) = some (some .matched, 0, 4, 2, [rawInt 0, rawInt 1, rawInt 1, rawInt 3, rawInt (-1), rawInt (-1)], false) := by kernel_rfl
theorem tzr16 : (reTurns 100 (Sre.forSearch tzCode (Str.ofString "-16:").cps 3 0 (Str.ofString "-16:").cps.size false)).map (reShow 3) = some (some .matched, 0, 4, 2, [rawInt 0, rawInt 1, rawInt 1, rawInt 3, rawInt (-1), rawInt (-1)], false) := by kernel_rfl
theorem tzr17 : (reTurns 100 (Sre.forSearch tzCode (Str.ofString "-12:").cps 3 0 (Str.ofString "-12:").cps.size false)).map (reShow 3) = some (some .matched, 0, 4, 2, [rawInt 0, rawInt 1, rawInt 1, rawInt 3, rawInt (-1), rawInt (-1)], false) := by kernel_rfl
theorem tzr18 : (reTurns 100 (Sre.forSearch tzCode (Str.ofString "-8:").cps 3 0 (Str.ofString "-8:").cps.size false)).map (reShow 3) = some (some .matched, 0, 3, 2, [rawInt 0, rawInt 1, rawInt 1, rawInt 2, rawInt (-1), rawInt (-1)], false) := by kernel_rfl
theorem tzr19 : (reTurns 100 (Sre.forSearch tzCode (Str.ofString "-4:").cps 3 0 (Str.ofString "-4:").cps.size false)).map (reShow 3) = some (some .matched, 0, 3, 2, [rawInt 0, rawInt 1, rawInt 1, rawInt 2, rawInt (-1), rawInt (-1)], false) := by kernel_rfl
end Mine
end
section
open PySem PySem.W PyProof.Rows PySem.Spec PySem.Calls PySem.Flt
set_option maxRecDepth 100000
set_option maxHeartbeats 2000000
namespace Mine
open PySem.Builtin PySem.Builtin.Re
theorem fillp5 : (hd.heap_39 = hd.heap_39) ∧ (PySem.Challenge.rw_zo0002_01 = PySem.Challenge.rw_zo0002_01) := by
  k_fill
  exact ⟨rfl, rfl⟩
theorem tzt_10 (w : World) : TzT w (Str.ofString "+04:00") (some (Str.ofString "+")) (some (Str.ofString "00")) 4 := by
  refine ⟨0, 6, 3, [rawInt 0, rawInt 1, rawInt 1, rawInt 3, rawInt 4, rawInt 6], Str.ofString "04", tzr0, rfl, ?_, ?_, ?_, ?_, ?_, ?_, ?_, ?_⟩
  · exact Nat.le_of_ble_eq_true rfl
  · kernel_rfl
  · kernel_rfl
  · kernel_rfl
  · kernel_rfl
  · exact Nat.le_of_ble_eq_true rfl
  · k_is
  · decide
theorem tzt_20 (w : World) : TzT w (Str.ofString "+08:00") (some (Str.ofString "+")) (some (Str.ofString "00")) 8 := by
  refine ⟨0, 6, 3, [rawInt 0, rawInt 1, rawInt 1, rawInt 3, rawInt 4, rawInt 6], Str.ofString "08", tzr1, rfl, ?_, ?_, ?_, ?_, ?_, ?_, ?_, ?_⟩
  · exact Nat.le_of_ble_eq_true rfl
  · kernel_rfl
  · kernel_rfl
  · kernel_rfl
  · kernel_rfl
  · exact Nat.le_of_ble_eq_true rfl
  · k_is
  · decide
theorem tzt_30 (w : World) : TzT w (Str.ofString "+12:00") (some (Str.ofString "+")) (some (Str.ofString "00")) 12 := by
  refine ⟨0, 6, 3, [rawInt 0, rawInt 1, rawInt 1, rawInt 3, rawInt 4, rawInt 6], Str.ofString "12", tzr2, rfl, ?_, ?_, ?_, ?_, ?_, ?_, ?_, ?_⟩
  · exact Nat.le_of_ble_eq_true rfl
  · kernel_rfl
  · kernel_rfl
  · kernel_rfl
  · kernel_rfl
  · exact Nat.le_of_ble_eq_true rfl
  · k_is
  · decide
theorem tzt_40 (w : World) : TzT w (Str.ofString "+16:00") (some (Str.ofString "+")) (some (Str.ofString "00")) 16 := by
  refine ⟨0, 6, 3, [rawInt 0, rawInt 1, rawInt 1, rawInt 3, rawInt 4, rawInt 6], Str.ofString "16", tzr3, rfl, ?_, ?_, ?_, ?_, ?_, ?_, ?_, ?_⟩
  · exact Nat.le_of_ble_eq_true rfl
  · kernel_rfl
  · kernel_rfl
  · kernel_rfl
  · kernel_rfl
  · exact Nat.le_of_ble_eq_true rfl
  · k_is
  · decide
theorem tzt_50 (w : World) : TzT w (Str.ofString "+20:00") (some (Str.ofString "+")) (some (Str.ofString "00")) 20 := by
  refine ⟨0, 6, 3, [rawInt 0, rawInt 1, rawInt 1, rawInt 3, rawInt 4, rawInt 6], Str.ofString "20", tzr4, rfl, ?_, ?_, ?_, ?_, ?_, ?_, ?_, ?_⟩
  · exact Nat.le_of_ble_eq_true rfl
  · kernel_rfl
  · kernel_rfl
  · kernel_rfl
  · kernel_rfl
  · exact Nat.le_of_ble_eq_true rfl
  · k_is
  · decide
theorem tzt_11 (w : World) : TzT w (Str.ofString "-2000") (some (Str.ofString "-")) (some (Str.ofString "00")) 20 := by
  refine ⟨0, 5, 3, [rawInt 0, rawInt 1, rawInt 1, rawInt 3, rawInt 3, rawInt 5], Str.ofString "20", tzr5, rfl, ?_, ?_, ?_, ?_, ?_, ?_, ?_, ?_⟩
  · exact Nat.le_of_ble_eq_true rfl
  · kernel_rfl
  · kernel_rfl
  · kernel_rfl
  · kernel_rfl
  · exact Nat.le_of_ble_eq_true rfl
  · k_is
  · decide
theorem tzt_21 (w : World) : TzT w (Str.ofString "-1600") (some (Str.ofString "-")) (some (Str.ofString "00")) 16 := by
  refine ⟨0, 5, 3, [rawInt 0, rawInt 1, rawInt 1, rawInt 3, rawInt 3, rawInt 5], Str.ofString "16", tzr6, rfl, ?_, ?_, ?_, ?_, ?_, ?_, ?_, ?_⟩
  · exact Nat.le_of_ble_eq_true rfl
  · kernel_rfl
  · kernel_rfl
  · kernel_rfl
  · kernel_rfl
  · exact Nat.le_of_ble_eq_true rfl
  · k_is
  · decide
theorem tzt_31 (w : World) : TzT w (Str.ofString "-1200") (some (Str.ofString "-")) (some (Str.ofString "00")) 12 := by
  refine ⟨0, 5, 3, [rawInt 0, rawInt 1, rawInt 1, rawInt 3, rawInt 3, rawInt 5], Str.ofString "12", tzr7, rfl, ?_, ?_, ?_, ?_, ?_, ?_, ?_, ?_⟩
  · exact Nat.le_of_ble_eq_true rfl
  · kernel_rfl
  · kernel_rfl
  · kernel_rfl
  · kernel_rfl
  · exact Nat.le_of_ble_eq_true rfl
  · k_is
  · decide
theorem tzt_41 (w : World) : TzT w (Str.ofString "-0800") (some (Str.ofString "-")) (some (Str.ofString "00")) 8 := by
  refine ⟨0, 5, 3, [rawInt 0, rawInt 1, rawInt 1, rawInt 3, rawInt 3, rawInt 5], Str.ofString "08", tzr8, rfl, ?_, ?_, ?_, ?_, ?_, ?_, ?_, ?_⟩
  · exact Nat.le_of_ble_eq_true rfl
  · kernel_rfl
  · kernel_rfl
  · kernel_rfl
  · kernel_rfl
  · exact Nat.le_of_ble_eq_true rfl
  · k_is
  · decide
theorem tzt_51 (w : World) : TzT w (Str.ofString "-0400") (some (Str.ofString "-")) (some (Str.ofString "00")) 4 := by
  refine ⟨0, 5, 3, [rawInt 0, rawInt 1, rawInt 1, rawInt 3, rawInt 3, rawInt 5], Str.ofString "04", tzr9, rfl, ?_, ?_, ?_, ?_, ?_, ?_, ?_, ?_⟩
  · exact Nat.le_of_ble_eq_true rfl
  · kernel_rfl
  · kernel_rfl
  · kernel_rfl
  · kernel_rfl
  · exact Nat.le_of_ble_eq_true rfl
  · k_is
  · decide
theorem tzt_12 (w : World) : TzT w (Str.ofString "4") (none) (none) 4 := by
  refine ⟨0, 1, 2, [rawInt (-1), rawInt (-1), rawInt 0, rawInt 1, rawInt (-1), rawInt (-1)], Str.ofString "4", tzr10, rfl, ?_, ?_, ?_, ?_, ?_, ?_, ?_, ?_⟩
  · exact Nat.le_of_ble_eq_true rfl
  · kernel_rfl
  · kernel_rfl
  · kernel_rfl
  · kernel_rfl
  · exact Nat.le_of_ble_eq_true rfl
  · k_is
  · decide
theorem tzt_22 (w : World) : TzT w (Str.ofString "8") (none) (none) 8 := by
  refine ⟨0, 1, 2, [rawInt (-1), rawInt (-1), rawInt 0, rawInt 1, rawInt (-1), rawInt (-1)], Str.ofString "8", tzr11, rfl, ?_, ?_, ?_, ?_, ?_, ?_, ?_, ?_⟩
  · exact Nat.le_of_ble_eq_true rfl
  · kernel_rfl
  · kernel_rfl
  · kernel_rfl
  · kernel_rfl
  · exact Nat.le_of_ble_eq_true rfl
  · k_is
  · decide
theorem tzt_32 (w : World) : TzT w (Str.ofString "12") (none) (none) 12 := by
  refine ⟨0, 2, 2, [rawInt (-1), rawInt (-1), rawInt 0, rawInt 2, rawInt (-1), rawInt (-1)], Str.ofString "12", tzr12, rfl, ?_, ?_, ?_, ?_, ?_, ?_, ?_, ?_⟩
  · exact Nat.le_of_ble_eq_true rfl
  · kernel_rfl
  · kernel_rfl
  · kernel_rfl
  · kernel_rfl
  · exact Nat.le_of_ble_eq_true rfl
  · k_is
  · decide
theorem tzt_42 (w : World) : TzT w (Str.ofString "16") (none) (none) 16 := by
  refine ⟨0, 2, 2, [rawInt (-1), rawInt (-1), rawInt 0, rawInt 2, rawInt (-1), rawInt (-1)], Str.ofString "16", tzr13, rfl, ?_, ?_, ?_, ?_, ?_, ?_, ?_, ?_⟩
  · exact Nat.le_of_ble_eq_true rfl
  · kernel_rfl
  · kernel_rfl
  · kernel_rfl
  · kernel_rfl
  · exact Nat.le_of_ble_eq_true rfl
  · k_is
  · decide
theorem tzt_52 (w : World) : TzT w (Str.ofString "20") (none) (none) 20 := by
  refine ⟨0, 2, 2, [rawInt (-1), rawInt (-1), rawInt 0, rawInt 2, rawInt (-1), rawInt (-1)], Str.ofString "20", tzr14, rfl, ?_, ?_, ?_, ?_, ?_, ?_, ?_, ?_⟩
  · exact Nat.le_of_ble_eq_true rfl
  · kernel_rfl
  · kernel_rfl
  · kernel_rfl
  · kernel_rfl
  · exact Nat.le_of_ble_eq_true rfl
  · k_is
  · decide
theorem tzt_13 (w : World) : TzT w (Str.ofString "-20:") (some (Str.ofString "-")) (none) 20 := by
  refine ⟨0, 4, 2, [rawInt 0, rawInt 1, rawInt 1, rawInt 3, rawInt (-1), rawInt (-1)], Str.ofString "20", tzr15, rfl, ?_, ?_, ?_, ?_, ?_, ?_, ?_, ?_⟩
  · exact Nat.le_of_ble_eq_true rfl
  · kernel_rfl
  · kernel_rfl
  · kernel_rfl
  · kernel_rfl
  · exact Nat.le_of_ble_eq_true rfl
  · k_is
  · decide
theorem tzt_23 (w : World) : TzT w (Str.ofString "-16:") (some (Str.ofString "-")) (none) 16 := by
  refine ⟨0, 4, 2, [rawInt 0, rawInt 1, rawInt 1, rawInt 3, rawInt (-1), rawInt (-1)], Str.ofString "16", tzr16, rfl, ?_, ?_, ?_, ?_, ?_, ?_, ?_, ?_⟩
  · exact Nat.le_of_ble_eq_true rfl
  · kernel_rfl
  · kernel_rfl
  · kernel_rfl
  · kernel_rfl
  · exact Nat.le_of_ble_eq_true rfl
  · k_is
  · decide
theorem tzt_33 (w : World) : TzT w (Str.ofString "-12:") (some (Str.ofString "-")) (none) 12 := by
  refine ⟨0, 4, 2, [rawInt 0, rawInt 1, rawInt 1, rawInt 3, rawInt (-1), rawInt (-1)], Str.ofString "12", tzr17, rfl, ?_, ?_, ?_, ?_, ?_, ?_, ?_, ?_⟩
  · exact Nat.le_of_ble_eq_true rfl
  · kernel_rfl
  · kernel_rfl
  · kernel_rfl
  · kernel_rfl
  · exact Nat.le_of_ble_eq_true rfl
  · k_is
  · decide
theorem tzt_43 (w : World) : TzT w (Str.ofString "-8:") (some (Str.ofString "-")) (none) 8 := by
  refine ⟨0, 3, 2, [rawInt 0, rawInt 1, rawInt 1, rawInt 2, rawInt (-1), rawInt (-1)], Str.ofString "8", tzr18, rfl, ?_, ?_, ?_, ?_, ?_, ?_, ?_, ?_⟩
  · exact Nat.le_of_ble_eq_true rfl
  · kernel_rfl
  · kernel_rfl
  · kernel_rfl
  · kernel_rfl
  · exact Nat.le_of_ble_eq_true rfl
  · k_is
  · decide
theorem tzt_53 (w : World) : TzT w (Str.ofString "-4:") (some (Str.ofString "-")) (none) 4 := by
  refine ⟨0, 3, 2, [rawInt 0, rawInt 1, rawInt 1, rawInt 2, rawInt (-1), rawInt (-1)], Str.ofString "4", tzr19, rfl, ?_, ?_, ?_, ?_, ?_, ?_, ?_, ?_⟩
  · exact Nat.le_of_ble_eq_true rfl
  · kernel_rfl
  · kernel_rfl
  · kernel_rfl
  · kernel_rfl
  · exact Nat.le_of_ble_eq_true rfl
  · k_is
  · decide
/- the seconds that the text of a zone tells -/
noncomputable def secZ (k e : Int) : Int := if e = 0 ∨ e = 2 then 14400 * k else 14400 * k - 86400
theorem zt_10 : zoneS 1 0 = Str.ofString "+04:00" := by decide +kernel
theorem zt_20 : zoneS 2 0 = Str.ofString "+08:00" := by decide +kernel
theorem zt_30 : zoneS 3 0 = Str.ofString "+12:00" := by decide +kernel
theorem zt_40 : zoneS 4 0 = Str.ofString "+16:00" := by decide +kernel
theorem zt_50 : zoneS 5 0 = Str.ofString "+20:00" := by decide +kernel
theorem zt_11 : zoneS 1 1 = Str.ofString "-2000" := by decide +kernel
theorem zt_21 : zoneS 2 1 = Str.ofString "-1600" := by decide +kernel
theorem zt_31 : zoneS 3 1 = Str.ofString "-1200" := by decide +kernel
theorem zt_41 : zoneS 4 1 = Str.ofString "-0800" := by decide +kernel
theorem zt_51 : zoneS 5 1 = Str.ofString "-0400" := by decide +kernel
theorem zt_12 : zoneS 1 2 = Str.ofString "4" := by decide +kernel
theorem zt_22 : zoneS 2 2 = Str.ofString "8" := by decide +kernel
theorem zt_32 : zoneS 3 2 = Str.ofString "12" := by decide +kernel
theorem zt_42 : zoneS 4 2 = Str.ofString "16" := by decide +kernel
theorem zt_52 : zoneS 5 2 = Str.ofString "20" := by decide +kernel
theorem zt_13 : zoneS 1 3 = Str.ofString "-20:" := by decide +kernel
theorem zt_23 : zoneS 2 3 = Str.ofString "-16:" := by decide +kernel
theorem zt_33 : zoneS 3 3 = Str.ofString "-12:" := by decide +kernel
theorem zt_43 : zoneS 4 3 = Str.ofString "-8:" := by decide +kernel
theorem zt_53 : zoneS 5 3 = Str.ofString "-4:" := by decide +kernel
theorem CtrB.int_eq {w : World} {x : Str} {t1 : Tok} {a b : Int} (e : a = b) (h : CtrB w 1 65 [.str x t1] (fun _ => True) (fun _ _ v => ∃ t, v = .int a t)) : CtrB w 1 65 [.str x t1] (fun _ => True) (fun _ _ v => ∃ t, v = .int b t) := e ▸ h
theorem tz_ok (w : World) (k e : Int) (t1 : Tok) (hk : 1 ≤ k ∧ k ≤ 5) (he : 0 ≤ e ∧ e ≤ 3) : CtrB w 1 65 [.str (zoneS k e) t1] (fun _ => True) (fun _ _ v => ∃ t, v = .int (secZ k e) t) := by
  have h1 : k = 1 ∨ k = 2 ∨ k = 3 ∨ k = 4 ∨ k = 5 := by omega
  have h2 : e = 0 ∨ e = 1 ∨ e = 2 ∨ e = 3 := by omega
  rcases h2 with rfl | rfl | rfl | rfl <;> rcases h1 with rfl | rfl | rfl | rfl | rfl
  · rw [zt_10]; exact CtrB.int_eq (by decide) (tzg w _ _ t1 (.inr (.inl rfl)) (.inr rfl) (tzt_10 w))
  · rw [zt_20]; exact CtrB.int_eq (by decide) (tzg w _ _ t1 (.inr (.inl rfl)) (.inr rfl) (tzt_20 w))
  · rw [zt_30]; exact CtrB.int_eq (by decide) (tzg w _ _ t1 (.inr (.inl rfl)) (.inr rfl) (tzt_30 w))
  · rw [zt_40]; exact CtrB.int_eq (by decide) (tzg w _ _ t1 (.inr (.inl rfl)) (.inr rfl) (tzt_40 w))
  · rw [zt_50]; exact CtrB.int_eq (by decide) (tzg w _ _ t1 (.inr (.inl rfl)) (.inr rfl) (tzt_50 w))
  · rw [zt_11]; exact CtrB.int_eq (by decide) (tzg w _ _ t1 (.inr (.inr rfl)) (.inr rfl) (tzt_11 w))
  · rw [zt_21]; exact CtrB.int_eq (by decide) (tzg w _ _ t1 (.inr (.inr rfl)) (.inr rfl) (tzt_21 w))
  · rw [zt_31]; exact CtrB.int_eq (by decide) (tzg w _ _ t1 (.inr (.inr rfl)) (.inr rfl) (tzt_31 w))
  · rw [zt_41]; exact CtrB.int_eq (by decide) (tzg w _ _ t1 (.inr (.inr rfl)) (.inr rfl) (tzt_41 w))
  · rw [zt_51]; exact CtrB.int_eq (by decide) (tzg w _ _ t1 (.inr (.inr rfl)) (.inr rfl) (tzt_51 w))
  · rw [zt_12]; exact CtrB.int_eq (by decide) (tzg w _ _ t1 (.inl rfl) (.inl rfl) (tzt_12 w))
  · rw [zt_22]; exact CtrB.int_eq (by decide) (tzg w _ _ t1 (.inl rfl) (.inl rfl) (tzt_22 w))
  · rw [zt_32]; exact CtrB.int_eq (by decide) (tzg w _ _ t1 (.inl rfl) (.inl rfl) (tzt_32 w))
  · rw [zt_42]; exact CtrB.int_eq (by decide) (tzg w _ _ t1 (.inl rfl) (.inl rfl) (tzt_42 w))
  · rw [zt_52]; exact CtrB.int_eq (by decide) (tzg w _ _ t1 (.inl rfl) (.inl rfl) (tzt_52 w))
  · rw [zt_13]; exact CtrB.int_eq (by decide) (tzg w _ _ t1 (.inr (.inr rfl)) (.inl rfl) (tzt_13 w))
  · rw [zt_23]; exact CtrB.int_eq (by decide) (tzg w _ _ t1 (.inr (.inr rfl)) (.inl rfl) (tzt_23 w))
  · rw [zt_33]; exact CtrB.int_eq (by decide) (tzg w _ _ t1 (.inr (.inr rfl)) (.inl rfl) (tzt_33 w))
  · rw [zt_43]; exact CtrB.int_eq (by decide) (tzg w _ _ t1 (.inr (.inr rfl)) (.inl rfl) (tzt_43 w))
  · rw [zt_53]; exact CtrB.int_eq (by decide) (tzg w _ _ t1 (.inr (.inr rfl)) (.inl rfl) (tzt_53 w))
end Mine
end
section
open PySem PySem.W PyProof.Rows PySem.Spec PySem.Calls PySem.Flt
set_option maxRecDepth 100000
set_option maxHeartbeats 2000000
namespace Mine
open Sem (wp)
section
variable {prog : Program} {w : World} {A : Around} {s : Shared}
theorem N_builtin {id : String} {args : Args} {b : Builtin} {Q : Flow → Shared → Prop} (hcl : holdId (.builtin id args) = false) (hb : entryFor table id = some b)
    (h : wpN (model prog w) (A.under (.builtin id args)) (b args) (fun fin s' => match fin with | .done f => Q f s' | .again c' => c'.quiet = true ∧ codeN (model prog w) A c' Q s') s) :
    codeN (model prog w) A (.builtin id args) Q s := by
  refine N_tree hcl ?_
  show wpN _ _ (match entryFor table id with | some b => b args | none => unsupported ((withoutEnding? id "#data").getD id)) _ s
  rw [hb]; exact h
theorem N_callBuiltin {id : String} {args : Args} {b : Builtin} {Q : Flow → Shared → Prop} (hq : plainId id = true) (hcl : holdId (.builtin id args) = false) (hb : entryFor table id = some b)
    (h : wpAny (model prog w) A.in1 (checkBuiltinCall id args) (fun _ s₁ => wpN (model prog w) A.in1 (b args)
      (fun fin s' => match fin with | .done f => Q f s' | .again c' => c'.quiet = true ∧ codeN (model prog w) A c' Q s') s₁) noE s) : codeN (model prog w) A (.call (.builtin id) args) Q s := by
  refine N_tree rfl ?_
  show wpN _ A.in1 (do checkBuiltinCall id args; again (.builtin id args)) _ s
  refine N_abind (wpAny_mono h (fun _ s₁ h₁ => N_pure (And.intro (plainId_quiet hq args) (N_builtin hcl hb ?_))) fun _ _ x => x)
  rw [Around.under_plainId hq args]; exact h₁
theorem N_if_false {α : Type} {M : Model} {c : Bool} {a b : Sem α} {Q : α → Shared → Prop} (hc : c = false) (h : wpN M A b Q s) : wpN M A (if c = true then a else b) Q s := by
  subst hc; exact h
theorem callType_N {T newId initId : String} {args : List Value} {Q Q₁ : Value → Shared → Prop} (ft : TypeCalled T newId initId)
    (hct : checkTypeCall T ⟨args, []⟩ = pure ())
    (hnew : codeAny (model prog w) A.in1 (.call (.builtin newId) ⟨.type T :: args, []⟩) (wants Q₁ noE) s)
    (hnext : ∀ obj s₁, Q₁ obj s₁ → s₁.TypeIs obj T ∧ codeN (model prog w) A.in1 (.call (.builtin initId) ⟨obj :: args, []⟩) (fun f s₂ => f = .ret .none ∧ Q obj s₂) s₁) :
    wpN (model prog w) A (call (.type T) args) Q s := by
  obtain ⟨c, tl, hmro⟩ := ft.mro
  have hmade := ft.made
  have hsub := ft.sub
  refine N_call (N_tree rfl ?_)
  show wpN _ _ (callAny (.type T) _) _ _
  refine N_pure ⟨Code.quiet_builtin _ (by decide +kernel), N_builtin rfl F.entry_type_call ?_⟩
  rw [Around.under_plain (weight_type_call_type T args []) rfl]
  unfold Builtin.«type.__call__»
  dsimp only
  rw [ft.notType]
  refine N_if_false rfl ?_
  refine N_if_false ft.canCreate ?_
  refine N_abind (wpAny_of_eq hct ?_)
  refine N_abind (wpAny_of_eq hmro ?_)
  refine N_if_false rfl ?_
  refine N_abind (wpAny_of_eq hmade ?_)
  dsimp only
  refine N_abind (wpAny_pure ?_)
  refine N_abind (wpAny_holding (wpAny_call (codeAny_mono hnew fun r s₁ hr => ?_)))
  cases r with
  | error e => exact hr
  | ok fl =>
    cases fl with
    | ret obj =>
      obtain ⟨hT, hcode⟩ := hnext _ _ hr
      refine N_abind (wpAny_isInstance hT hsub ?_)
      refine N_if_false rfl ?_
      refine N_bind (N_holding ?_)
      unfold callSpecial?
      refine N_abind (wpAny_specialOf hT ft.init.lookup ?_)
      dsimp only
      refine N_holding ?_
      refine N_abind (wpAny_of_eq (ft.init.bind obj) ?_)
      dsimp only
      refine N_bind (N_call (N_monoC hcode fun f s₂ hf => ?_))
      obtain ⟨rfl, hq⟩ := hf
      exact N_pure (N_if_false rfl (N_pure hq))
    | _ => exact hr.elim
end
end Mine
end
section
open PySem PySem.W PyProof.Rows PySem.Spec PySem.Calls PySem.Flt
set_option maxRecDepth 1000000
set_option maxHeartbeats 4000000
namespace Mine
open Sem (wp)
theorem ba_mro : mroOf (.type "bytearray") = pure [.type "bytearray", .type "object"] := by rw [mroOf_type]; kernel_rfl
theorem ba_lookup_new : typeLookup (.type "bytearray") "__new__" = pure (some (.builtin "bytearray.__new__")) := by rw [typeLookup_type, builtinLookup_eq_fast]; kernel_rfl
theorem ba_slot_init : Slot "bytearray" "__init__" "bytearray.__init__" :=
  .of (owner := "bytearray") (n := "__init__") (by rw [typeLookup_type, builtinLookup_eq_fast]; kernel_rfl) (by decide +kernel) (by decide +kernel) (by decide +kernel)
    (by first | exact .inl (by decide +kernel) | exact .inr (by decide +kernel)) (by rw [isSubtype_type]; kernel_rfl)
theorem ba_called : TypeCalled "bytearray" "bytearray.__new__" "bytearray.__init__" :=
  ⟨by decide +kernel, by decide +kernel, ⟨_, _, ba_mro⟩, madeBy_type ba_mro ba_lookup_new (by decide +kernel), by decide +kernel, by rw [isSubtype_type]; kernel_rfl, ba_slot_init⟩
theorem ba_typeCall (a : Value) : checkTypeCall "bytearray" ⟨[a], []⟩ = pure () := by kernel_rfl
theorem ba_newCall (a : Value) : checkBuiltinCall "bytearray.__new__" ⟨[.type "bytearray", a], []⟩ = pure () := by kernel_rfl
theorem ba_plain : plainId "bytearray.__new__" = true := by decide +kernel
theorem ba_entry_new : entryFor table "bytearray.__new__" = some Builtin.«list.__new__» :=
  entryFor_alias (id' := "list.__new__") (by rw [fastTable_eq_tree]; kernel_rfl) (by first | rfl | decide +kernel) (by decide +kernel) (by rw [fastTable_eq_tree]; kernel_rfl)
theorem ba_no_release : typeLookup (.type "bytearray") "__release_buffer__" = pure (some (.builtin "bytearray.__release_buffer__")) := by rw [typeLookup_type, builtinLookup_eq_fast]; kernel_rfl
theorem ba_entry_init : entryFor table "bytearray.__init__" = some Builtin.«bytearray.__init__» := entryFor_of_tree (by kernel_rfl)
theorem ba_owner : ("bytearray.__new__".splitOn ".__new__").headD "" = "bytearray" := by simp +decide [String.splitOn, String.splitOnAux]
theorem ba_sub : isSubtype (.type "bytearray") (.type "bytearray") = pure true := by rw [isSubtype_type]; kernel_rfl
theorem ba_bind (v : Value) : Builtin.Bytes.bindOptional "bytearray.__init__" "bytearray" ["source", "encoding", "errors"] [v] [] = pure [some v, none, none] := by kernel_rfl
theorem ba_args (a b : Value) : argsOk "bytearray.__init__" ⟨[a, b], []⟩ := by kernel_rfl
section
variable {prog : Program} {w : World} {A : Around} {s : Shared} {E : Value → Shared → Prop}
theorem ba_new (a : Value) {Q₁ : Value → Shared → Prop}
    (h : Q₁ (.ref s.heap.objs.size) { s with heap := s.heap.push { cls := .type "bytearray", data := .bytearray #[] } }) :
    codeAny (model prog w) A (.call (.builtin "bytearray.__new__") ⟨[.type "bytearray", a], []⟩) (wants Q₁ E) s := by
  refine codeAny_of_tree ?_
  show wpAny _ A.in1 (do checkBuiltinCall "bytearray.__new__" ⟨[.type "bytearray", a], []⟩; again (.builtin "bytearray.__new__" ⟨[.type "bytearray", a], []⟩)) _ _ s
  refine wpAny_bind (wpAny_of_eq (ba_newCall a) (wpAny_pure ⟨plainId_quiet ba_plain _, codeAny_builtin_stack ba_entry_new rfl fun p st => ?_⟩))
  rw [Around.under_plainId ba_plain _]
  have hsub := ba_sub
  have hown := ba_owner
  obtain ⟨hp, g, d, tk, os⟩ := s
  simp only [hown]
  wp_walk
  exact h
theorem ba_init {a : Addr} {n : Int} {t : Tok} {Q : Value → Shared → Prop} (ha : s.heap.get? a = some { cls := .type "bytearray", data := .bytearray #[] })
    (hn : n = 2 ∨ n = 3)
    (h : ∀ h', h'.get? a = some { cls := .type "bytearray", data := .bytearray (Array.replicate n.toNat 0) } → Heap.SameBut a s.heap h' → Q (.ref a) { s with heap := h' }) :
    codeN (model prog w) A (.call (.builtin "bytearray.__init__") ⟨[.ref a, .int n t], []⟩) (fun f s₂ => f = .ret .none ∧ Q (.ref a) s₂) s := by
  have hT : s.TypeIs (.ref a) "bytearray" := ⟨_, ha, rfl⟩
  refine N_callBuiltin ba_slot_init.plain (by show List.contains _ _ = false; decide +kernel) ba_entry_init ?_
  refine ba_slot_init.check _ _ _ _ _ _ _ _ hT (ba_args _ _) ?_
  unfold Builtin.«bytearray.__init__»
  dsimp only
  unfold Builtin.Bytes.ownRelease Builtin.Bytes.slotIsOwn
  refine N_abind (wpAny_bind (wpAny_bind (wpAny_specialOf hT ba_no_release ?_)))
  dsimp only
  refine bm_if_false (by decide +kernel) ?_
  rw [show "bytearray.__release_buffer__".dropRight ("__release_buffer__".length + 1) = "bytearray" by decide +kernel]
  refine wpAny_isInstance hT ba_sub (wpAny_pure ?_)
  refine N_if_false rfl ?_
  refine N_abind (wpAny_of_eq (ba_bind _) ?_)
  dsimp only
  refine N_abind (wpAny_of_eq (a := ()) rfl ?_)
  refine N_abind (wpAny_of_eq (a := ()) rfl ?_)
  refine N_bind ?_
  unfold orM
  refine N_bind ?_
  unfold Builtin.Bytes.exported
  refine N_stackAny (fun c p hc => ?_) ?_
  · unfold holdId at hc
    cases c with
    | builtin id as =>
      simp only [List.contains_eq_any_beq, List.any_append, Bool.or_eq_false_iff, List.any_cons, List.any_nil, beq_eq_false_iff_ne, ne_eq] at hc
      obtain ⟨⟨h1, h2, h3, h4, h5, _⟩, hc⟩ := hc
      obtain ⟨l, kw⟩ := as
      delta Builtin.Bytes.exported.match_1
      dsimp only
      refine (dif_neg h1).trans ?_
      refine (dif_neg h2).trans ?_
      refine (dif_neg h3).trans ?_
      refine (dif_neg h4).trans ?_
      refine (dif_neg h5).trans ?_
      cases l with
      | nil => rfl
      | cons v l =>
        show (Builtin.Bytes.sameRef v _ && Builtin.Bytes.decodersThatHold.contains id) = false
        rw [List.contains_eq_any_beq, hc]; exact Bool.and_false _
    | _ => rfl
  show wpN _ _ (Builtin.Bytes.exportsOf (Value.ref a) >>= _) _ _
  refine N_abind (wpAny_bind (wpAny_load ha (wpAny_pure (N_pure ?_))))
  refine N_if_false rfl ?_
  refine N_abind ?_
  show wpAny _ _ (updateBytearray a (fun _ => #[])) _ _ _
  unfold updateBytearray
  refine wpAny_bind (wpAny_load ha ?_)
  show wpAny _ _ (update a (Obj.mapBytearray (fun _ => #[])) >>= fun _ => lookBehind a) _ _ _
  refine wpAny_bind (wpAny_update ha ?_)
  have hS₂ : (s.heap.update a (Obj.mapBytearray (fun _ => #[]))).get? a = some { cls := .type "bytearray", data := .bytearray #[] } := Heap.get?_update_self (Obj.mapBytearray (fun _ => #[])) ha rfl
  refine wpAny_lookBehind hS₂ rfl ?_
  refine N_abind (wpAny_of_eq (a := none) rfl ?_)
  refine N_if_false rfl ?_
  refine N_if_false (by rcases hn with rfl | rfl <;> rfl) ?_
  rw [if_neg (by omega)]
  refine N_if_false (by rcases hn with rfl | rfl <;> rfl) ?_
  refine N_if_false (by rcases hn with rfl | rfl <;> rfl) ?_
  rw [if_pos (by omega)]
  refine N_abind (wpAny_rule ?_)
  refine N_abind ?_
  show wpAny _ _ (updateBytearray a (fun _ => Array.replicate n.toNat 0)) _ _ _
  unfold updateBytearray
  refine wpAny_bind (wpAny_load hS₂ ?_)
  show wpAny _ _ (update a (Obj.mapBytearray (fun _ => Array.replicate n.toNat 0)) >>= fun _ => lookBehind a) _ _ _
  refine wpAny_bind (wpAny_update hS₂ ?_)
  have hS₃ : ((s.heap.update a (Obj.mapBytearray (fun _ => #[]))).update a (Obj.mapBytearray (fun _ => Array.replicate n.toNat 0))).get? a = some { cls := .type "bytearray", data := .bytearray (Array.replicate n.toNat 0) } := Heap.get?_update_self (Obj.mapBytearray (fun _ => Array.replicate n.toNat 0)) hS₂ rfl
  refine wpAny_lookBehind hS₃ (by rcases hn with rfl | rfl <;> rfl) ?_
  refine N_abind (wpAny_pure (N_pure ⟨rfl, h _ hS₃ ?_⟩))
  exact (Heap.SameBut.update ..).trans (Heap.SameBut.update ..)
/- bytearray(n): n nulls, in surroundings that hold no bytearray -/
theorem bytearray_N {n : Int} {t : Tok} {Q : Value → Shared → Prop} (hn : n = 2 ∨ n = 3)
    (h : ∀ h', h'.get? s.heap.objs.size = some { cls := .type "bytearray", data := .bytearray (Array.replicate n.toNat 0) } → (∀ b o, s.heap.get? b = some o → h'.get? b = some o) → Q (.ref s.heap.objs.size) { s with heap := h' }) :
    wpN (model prog w) A (call (.type "bytearray") [.int n t]) Q s := by
  refine callType_N ba_called (ba_typeCall _) (ba_new _ (Q₁ := fun obj s₁ => obj = .ref s.heap.objs.size ∧ s₁ = { s with heap := s.heap.push { cls := .type "bytearray", data := .bytearray #[] } }) ⟨rfl, rfl⟩) ?_
  rintro _ _ ⟨rfl, rfl⟩
  have ha : (s.heap.push { cls := .type "bytearray", data := .bytearray #[] }).get? s.heap.objs.size = some { cls := .type "bytearray", data := .bytearray #[] } := Heap.get?_push_size _ rfl
  refine ⟨⟨_, ha, rfl⟩, ba_init ha hn fun h' h1 h2 => h h' h1 fun b o e => ?_⟩
  exact (h2.2 b (Nat.ne_of_lt (Heap.lt_size e))).trans (Heap.get?_push_of_some _ e)
end
end Mine
end
section
open PySem PySem.W PyProof.Rows PySem.Spec PySem.Calls PySem.Flt
set_option maxRecDepth 100000
set_option maxHeartbeats 1000000
namespace Mine
open Sem (wp)
section
variable {prog : Program} {w : World} {A A₀ : Around} {s : Shared} {K : Frag} {L : Addr} {h₀ base : Heap} {m mg mb : Str → Option Value} {p : Program} {loose : List Str} {mean : ExcName → Option Value}
/- a def without cells is entered (surroundings that hold no bytearray) -/
theorem code_baseN {env : Env} {outer : List Env} {Q : Flow → Shared → Prop} {name qual : Str} {params : Arguments} {body : List Stmt} {scope : Scope} {dV kV doc pm cdv ct oc : Value} {an od : Option Addr} {osl : Array (Option Value)} {f : Addr} {args : Args} {binds : List (Str × Value)}
    (B : Below A₀ base outer h₀) (F : Fr h₀ L s.heap m) (X₀ : K.In h₀) (T : Top p loose mean mg mb h₀) (hA : A.frames = some (env :: outer)) (hf : env.frame = some L) (hke : env.scope.kind = .function)
    (ho : K.lookup f = some ⟨oc, od, .func (fnOf name qual params body scope dV kV doc pm an cdv ct), osl⟩) (hcd : codeIn K cdv qual = true) (hroom : A.depth < recursionLimit)
    (hbind : BindsTo s (fnOf name qual params body scope dV kV doc pm an cdv ct) args binds) (hloc : ∀ y ∈ binds, scope.names.lookup y.1 = some .local)
    (h : ∀ L' h₁ tk, Fr s.heap L' h₁ (fun y => binds.reverse.lookup y) → News s.heap L' h₁ [] → Below A base (env :: outer) s.heap → K.In s.heap → Top p loose mean mg mb s.heap →
      wpN (model prog w) (A.deeper (envOf qual scope L' f cdv)) (execs body (envOf qual scope L' f cdv))
        (fun fl s' => LeaveK h₀ L m s.heap (okR Q) (match fl with | .ret v => v | _ => .none) s')
        { s with heap := h₁, toks := tk })
    (hco : scope.isCoroutine = false) (hgen : scope.isGenerator = false) (hk : scope.kind = .function)
    (hcell : ∀ x ∈ scope.names, x.2 ≠ .cell) : codeN (model prog w) A (.call (.ref f) args) Q s := by
  obtain ⟨FG, BG, st, lv⟩ := groundX (R := okR Q) B F (News.nil (h₀ := h₀) (h := s.heap) (L := L)) hA hf hke
  have XS : K.In s.heap := X₀.keeps F.keep
  refine N_call_function (fd := fnOf name qual params body scope dV kV doc pm an cdv ct) (body := body) hroom (XS _ _ ho) rfl hco hgen rfl (codeRec_of XS hcd) (hbind _ _ _ _ ?_)
  refine wpAny_newFunctionEnv hcell hloc (fun h₁ hns hsb => ?_) hk
  have hk₁ : ∀ b o, s.heap.get? b = some o → h₁.get? b = some o := fun b o e => hsb.extBut b o (Nat.ne_of_lt (Heap.lt_size e)) (Heap.get?_push_of_some _ e)
  refine ⟨(T.nolimit.keeps F.keep).keeps hk₁, N_func (N_mono (h s.heap.objs.size h₁ _ ⟨hns, fun b o e => hk₁ b o e, Nat.le_refl _⟩ News.nil BG XS (T.keeps F.keep)) fun fl s' hl => lv _ _ hl)⟩
/- a def with cells is entered -/
theorem code_baseCN {env : Env} {outer : List Env} {Q : Flow → Shared → Prop} {name qual : Str} {params : Arguments} {body : List Stmt} {scope : Scope} {dV kV doc pm cdv ct oc : Value} {an od : Option Addr} {osl : Array (Option Value)} {f : Addr} {args : Args} {binds : List (Str × Value)}
    (B : Below A₀ base outer h₀) (F : Fr h₀ L s.heap m) (X₀ : K.In h₀) (T : Top p loose mean mg mb h₀) (hA : A.frames = some (env :: outer)) (hf : env.frame = some L) (hke : env.scope.kind = .function)
    (ho : K.lookup f = some ⟨oc, od, .func (fnOf name qual params body scope dV kV doc pm an cdv ct), osl⟩) (hcd : codeIn K cdv qual = true) (hroom : A.depth < recursionLimit)
    (hbind : BindsTo s (fnOf name qual params body scope dV kV doc pm an cdv ct) args binds) (hkind : (binds.all fun y => scope.names.lookup y.1 == some .local || scope.names.lookup y.1 == some .cell) = true)
    (hnd : ((cellsFrom 0 scope.names []).map (·.1)).Nodup)
    (h : ∀ L' h₁ tk cells, Fr s.heap L' h₁ (bindL (envOfC qual scope L' f cdv).kindOf binds fun _ => none) → News s.heap L' h₁ cells →
      CellsAre (bindC (envOfC qual scope L' f cdv).kindOf binds fun _ => none) (cellsFrom (L' + 1) scope.names []) cells → Below A base (env :: outer) s.heap → K.In s.heap → Top p loose mean mg mb s.heap →
      wpN (model prog w) (A.deeper (envOfC qual scope L' f cdv)) (execs body (envOfC qual scope L' f cdv))
        (fun fl s' => LeaveK h₀ L m s.heap (okR Q) (match fl with | .ret v => v | _ => .none) s')
        { s with heap := h₁, toks := tk })
    (hco : scope.isCoroutine = false) (hgen : scope.isGenerator = false) (hk : scope.kind = .function) : codeN (model prog w) A (.call (.ref f) args) Q s := by
  obtain ⟨FG, BG, st, lv⟩ := groundX (R := okR Q) B F (News.nil (h₀ := h₀) (h := s.heap) (L := L)) hA hf hke
  have XS : K.In s.heap := X₀.keeps F.keep
  refine N_call_function hroom (XS _ _ ho) rfl hco hgen rfl (codeRec_of XS hcd) (hbind _ _ _ _ ?_)
  refine wpAny_newFunctionEnv_cells hk (kindsX hkind _) fun env' he s' x => ?_
  subst he
  refine ⟨(T.nolimit.keeps F.keep).keeps x.toInCall.keep, N_func ?_⟩
  obtain ⟨h₁, tk, rfl, _⟩ := x.done
  have hk₁ := x.toInCall.keep
  obtain ⟨cells, NC, Y⟩ := Cl.news (h₀ := s.heap) (Nat.le_refl _) fun n c hm => ⟨x.cell n c (lookup_of_mem_nodup (cellsFrom_names scope.names 0 (s.heap.objs.size + 1) [] [] rfl ▸ hnd) hm), x.above n c hm⟩
  exact N_mono (h s.heap.objs.size h₁ tk cells ⟨x.toInCall.ns, fun b o e => hk₁ b o e, Nat.le_refl _⟩ (fun q hq => NC q hq) Y BG XS (T.keeps F.keep)) (fun fl s' hl => lv _ _ hl)
end
/- the law's own def is entered, from the claim's caller -/
theorem code_lawN {prog : Program} {w : World} {s : Shared} {mg mb : Str → Option Value} {p : Program} {loose : List Str} {mean : ExcName → Option Value} {Q : Flow → Shared → Prop} {name qual : Str} {params : Arguments} {body : List Stmt} {scope : Scope} {dV kV doc pm cdv ct : Value} {an : Option Addr} {f : Addr} {o : Obj} {args : Args} {binds : List (Str × Value)}
    (T : Top p loose mean mg mb s.heap) (ho : s.heap.get? f = some o) (hd : o.data = .func (fnOf name qual params body scope dV kV doc pm an cdv ct)) (hcd : s.heap.CodeRec cdv qual)
    (hbind : BindsTo s (fnOf name qual params body scope dV kV doc pm an cdv ct) args binds) (hkind : (binds.all fun y => scope.names.lookup y.1 == some .local || scope.names.lookup y.1 == some .cell) = true)
    (hnd : ((cellsFrom 0 scope.names []).map (·.1)).Nodup)
    (h : ∀ L' h₁ tk cells, Fr s.heap L' h₁ (bindL (envOfC qual scope L' f cdv).kindOf binds fun _ => none) → News s.heap L' h₁ cells →
      CellsAre (bindC (envOfC qual scope L' f cdv).kindOf binds fun _ => none) (cellsFrom (L' + 1) scope.names []) cells → Below callerA s.heap [] s.heap →
      wpN (model prog w) (callerA.deeper (envOfC qual scope L' f cdv)) (execs body (envOfC qual scope L' f cdv))
        (fun fl s' => Q (.ret (match fl with | .ret v => v | _ => .none)) s') { s with heap := h₁, toks := tk })
    (hco : scope.isCoroutine = false) (hgen : scope.isGenerator = false) (hk : scope.kind = .function) : codeN (model prog w) callerA (.call (.ref f) args) Q s := by
  refine N_call_function (by decide) ho hd hco hgen rfl hcd (hbind _ _ _ _ ?_)
  refine wpAny_newFunctionEnv_cells hk (kindsX hkind _) fun env' he s' x => ?_
  subst he
  refine ⟨T.nolimit.keeps x.toInCall.keep, N_func ?_⟩
  obtain ⟨h₁, tk, rfl, _⟩ := x.done
  have hk₁ := x.toInCall.keep
  obtain ⟨cells, NC, Y⟩ := Cl.news (h₀ := s.heap) (Nat.le_refl _) fun n c hm => ⟨x.cell n c (lookup_of_mem_nodup (cellsFrom_names scope.names 0 (s.heap.objs.size + 1) [] [] rfl ▸ hnd) hm), x.above n c hm⟩
  exact h s.heap.objs.size h₁ tk cells ⟨x.toInCall.ns, fun b o e => hk₁ b o e, Nat.le_refl _⟩ (fun q hq => NC q hq) Y (below_caller _)
/- what a call of the def at f gives, in surroundings that hold no bytearray -/
noncomputable def CtrN (w : World) (n : Nat) (f : Addr) (vs : List Value) (pre : Heap → Prop) (R : Heap → Heap → Value → Prop) : Prop :=
  ∀ (mean : ExcName → Option Value) (mg mb : Str → Option Value) (dp un : Nat) (gd : Option (List Code)) (cn : Str) (cs : Scope) (a : Addr) (ccd : Value) (cl : List (Str × Addr)) (outer : List Env) (A₀ : Around) (base h₀ : Heap) (L : Addr) (m : Str → Option Value) (s : Shared) (Q : Value → Shared → Prop),
    Below A₀ base outer h₀ → Fr h₀ L s.heap m → Frag.In (hd.heap_39 w.params) h₀ → Top V0 loose0 mean mg mb h₀ → cs.kind = .function →
    dp + n < recursionLimit → un + 8 * n < cLine → pre s.heap →
    (∀ (v : Value) (h' : Heap) (tk' : Nat), (∀ b o, s.heap.get? b = some o → h'.get? b = some o) → R s.heap h' v → Q v { s with heap := h', toks := tk' }) →
    wpN (model P0 w) (ktrTop dp un gd cn cs L a ccd cl outer) (call (.ref f) vs) Q s
theorem CtrN.body {w : World} {n : Nat} {f : Addr} {vs : List Value} {pre : Heap → Prop} {R : Heap → Heap → Value → Prop} {name qual : Str} {params : Arguments} {body : List Stmt} {scope : Scope} {dV kV doc pm cdv ct oc : Value} {an od : Option Addr} {osl : Array (Option Value)} (binds : List (Str × Value))
    (ho : (hd.heap_39 w.params).lookup f = some ⟨oc, od, .func (fnOf name qual params body scope dV kV doc pm an cdv ct), osl⟩) (hcd : codeIn (hd.heap_39 w.params) cdv qual = true)
    (hbind : ∀ s, BindsTo s (fnOf name qual params body scope dV kV doc pm an cdv ct) ⟨vs, []⟩ binds) (hloc : ∀ y ∈ binds, scope.names.lookup y.1 = some .local) (hn : 1 ≤ n)
    (hco : scope.isCoroutine = false) (hgen : scope.isGenerator = false) (hk : scope.kind = .function) (hcell : ∀ x ∈ scope.names, x.2 ≠ .cell)
    (h : ∀ (κ : KP) (mean : ExcName → Option Value) (mg mb : Str → Option Value) (base : Heap) (s : Shared) (L' : Addr) (h₁ : Heap) (tk : Nat) (Q : Flow → Shared → Prop), κ.top.depth + n < recursionLimit → κ.top.units + 8 * n < cLine → pre s.heap →
      Fr s.heap L' h₁ (fun y => binds.reverse.lookup y) → Below κ.top base κ.fs s.heap → Frag.In (hd.heap_39 w.params) s.heap → Top V0 loose0 mean mg mb s.heap →
      (∀ v h' tk' m', Fr s.heap L' h' m' → R s.heap h' v → Q (.ret v) { s with heap := h', toks := tk' }) →
      wpN (model P0 w) (κ.top.deeper (envOf qual scope L' f cdv)) (execs body (envOf qual scope L' f cdv)) Q { s with heap := h₁, toks := tk }) : CtrN w n f vs pre R := by
  intro mean mg mb dp un gd cn cs a ccd cl outer A₀ base h₀ L m s Q B F X T hkk hdp hu hp hret
  refine N_call (code_baseN B F X T rfl rfl hkk ho hcd (by show dp < _; omega) (hbind _) hloc (fun L' h₁ tk F' _ B' X' T' => ?_) hco hgen hk hcell)
  exact h ⟨dp, un, gd, _⟩ mean mg mb base s L' h₁ tk _ hdp hu hp F' B' X' T' fun v h' tk' m' F9 r => leaveK_ F9 (News.nil (h₀ := s.heap) (h := h') (L := L')) fun _ _ => hret v h' tk' F9.keep r
theorem CtrN.bodyC {w : World} {n : Nat} {f : Addr} {vs : List Value} {pre : Heap → Prop} {R : Heap → Heap → Value → Prop} {name qual : Str} {params : Arguments} {body : List Stmt} {scope : Scope} {dV kV doc pm cdv ct oc : Value} {an od : Option Addr} {osl : Array (Option Value)} (binds : List (Str × Value))
    (ho : (hd.heap_39 w.params).lookup f = some ⟨oc, od, .func (fnOf name qual params body scope dV kV doc pm an cdv ct), osl⟩) (hcd : codeIn (hd.heap_39 w.params) cdv qual = true)
    (hbind : ∀ s, BindsTo s (fnOf name qual params body scope dV kV doc pm an cdv ct) ⟨vs, []⟩ binds) (hkind : (binds.all fun y => scope.names.lookup y.1 == some .local || scope.names.lookup y.1 == some .cell) = true) (hn : 1 ≤ n)
    (hnd : ((cellsFrom 0 scope.names []).map (·.1)).Nodup) (hco : scope.isCoroutine = false) (hgen : scope.isGenerator = false) (hk : scope.kind = .function)
    (h : ∀ (κ : KP) (mean : ExcName → Option Value) (mg mb : Str → Option Value) (base : Heap) (s : Shared) (L' : Addr) (h₁ : Heap) (tk : Nat) (cells : List (Addr × Obj)) (Q : Flow → Shared → Prop), κ.top.depth + n < recursionLimit → κ.top.units + 8 * n < cLine → pre s.heap →
      Fr s.heap L' h₁ (bindL (envOfC qual scope L' f cdv).kindOf binds fun _ => none) → News s.heap L' h₁ cells → CellsAre (bindC (envOfC qual scope L' f cdv).kindOf binds fun _ => none) (cellsFrom (L' + 1) scope.names []) cells → Below κ.top base κ.fs s.heap → Frag.In (hd.heap_39 w.params) s.heap → Top V0 loose0 mean mg mb s.heap →
      (∀ v h' tk' m', Fr s.heap L' h' m' → R s.heap h' v → Q (.ret v) { s with heap := h', toks := tk' }) →
      wpN (model P0 w) (κ.top.deeper (envOfC qual scope L' f cdv)) (execs body (envOfC qual scope L' f cdv)) Q { s with heap := h₁, toks := tk }) : CtrN w n f vs pre R := by
  intro mean mg mb dp un gd cn cs a ccd cl outer A₀ base h₀ L m s Q B F X T hkk hdp hu hp hret
  refine N_call (code_baseCN B F X T rfl rfl hkk ho hcd (by show dp < _; omega) (hbind _) hkind hnd (fun L' h₁ tk cells F' N' Y' B' X' T' => ?_) hco hgen hk)
  exact h ⟨dp, un, gd, _⟩ mean mg mb base s L' h₁ tk cells _ hdp hu hp F' N' Y' B' X' T' fun v h' tk' m' F9 r => leaveK_ F9 (News.nil (h₀ := s.heap) (h := h') (L := L')) fun _ _ => hret v h' tk' F9.keep r
end Mine
end
section
open PySem PySem.W PyProof.Rows PySem.Spec PySem.Calls PySem.Flt
set_option maxRecDepth 100000
namespace Mine
open LCg
/- hides a state from the walk -/
structure Hide (p : Prop) : Prop where
  out : p
section
variable {prog : Program} {w : World} {A : Around} {E : Value → Shared → Prop} {s : Shared} {h₀ : Heap} {L : Addr} {m : Str → Option Value} {env : Env}
  {elt : PySem.Expr} {x : Str} {scope : Scope} {cl : List (Str × Addr)} {S : List (Addr × Obj) → Prop} {P : Nat → Value → Prop} {Fin : List Value → List (Addr × Obj) → Prop}
/- all turns of a comprehension at once, by what holds ahead of turn i -/
theorem rest_all (n : Nat) (Inv : Nat → List Value → List (Addr × Obj) → Prop)
    (step : ∀ i ys news, i < n → Inv i ys news → ∀ v I oI C oC D m₂ h tk (E' : Value → Shared → Prop), P i v → NsObj oC m₂ → m₂ x = some v → Fr h₀ L h m → News h₀ L h ((I, oI) :: (C, oC) :: (D, lst ys) :: news) → Off3 I C D news → ((@Ne Nat I C) ∧ (@Ne Nat I D) ∧ (@Ne Nat C D)) →
      ∀ Q' : Value → Shared → Prop, (∀ y s', CompEnd h₀ L m { s with heap := h, toks := tk } I oI C oC D (lst ys) S (fun y news' => Inv (i + 1) (ys ++ [y]) news') y s' → Q' y s') → wpAny (model prog w) A (eval elt (compEnvC scope cl C env)) Q' E' { s with heap := h, toks := tk })
    (fin : ∀ ys news, Inv n ys news → Fin ys news) : ∀ k i ys news, i + k = n → Inv i ys news → CompRest prog w A h₀ L m env elt x scope cl s S P Fin k i ys news
  | 0, i, ys, news, e, h => by
    obtain rfl : i = n := e
    exact fin _ _ h
  | k + 1, i, ys, news, e, h => fun v I oI C oC D m₂ hp tk E' hv hC hx F N off ne =>
    step i ys news (by omega) h v I oI C oC D m₂ hp tk E' hv hC hx F N off ne _ fun y s' ⟨h', tk', news', e', F', N', off', hS', r'⟩ =>
      ⟨h', tk', news', e', F', N', off', hS', rest_all n Inv step fin k (i + 1) (ys ++ [y]) news' (by omega) r'⟩
theorem src_range {Fin : Shared → List Value → List (Addr × Obj) → Prop} {r : Addr} {a b : Int} {t u v : Tok} {n : Nat} {news : List (Addr × Obj)} {s₁ : Shared}
    (hh : A.handled = none) (F : Fr h₀ L s₁.heap m) (N : News h₀ L s₁.heap news) (hr : IsRange s₁.heap r a b 1 t u v) (hsm : Builtin.Range.small a b 1 = true) (hn : Builtin.Range.rangeSize a b 1 = ((n : Nat) : Int)) (hsz : n ≤ sizeLine)
    (h : Hide (∀ g, CompRest prog w A h₀ L m env elt x scope cl { s₁ with heap := g } (fun _ => True) (fun i v => ∃ t, v = .int (a + (i : Int)) t) (Fin { s₁ with heap := g }) n 0 [] news)) :
    CompSrc prog w A h₀ L m env elt x scope cl Fin (.ref r) s₁ := CompSrc.range hh F N hr hsm hn hsz h.out
theorem src_ledger {Fin : Shared → List Value → List (Addr × Obj) → Prop} {ax : Addr} {its : Array Value} {k : Nat} {news : List (Addr × Obj)} {s₁ : Shared}
    (hh : A.handled = none) (F : Fr h₀ L s₁.heap m) (N : News h₀ L s₁.heap news) (hm : (ax, ({ cls := .type "list", data := .seq its k } : Obj)) ∈ news) (hsz : its.size ≤ sizeLine)
    (h : Hide (∀ g, CompRest prog w A h₀ L m env elt x scope cl { s₁ with heap := g } (SrcAt h₀ ax its) (fun i v => its[i]? = some v) (Fin { s₁ with heap := g }) its.size 0 [] news)) :
    CompSrc prog w A h₀ L m env elt x scope cl Fin (.ref ax) s₁ := CompSrc.ledger hh F N hm hsz h.out
end
/- the items made so far by a comprehension that makes no object -/
inductive YI (G : Nat → Tok → Value) (i : Nat) (ys : List Value) : Prop
  | mk (t : Nat → Tok) (e : ys = (List.range i).map fun j => G j (t j)) : YI G i ys
theorem YI.nil (G : Nat → Tok → Value) : YI G 0 [] := ⟨fun _ => 0, rfl⟩
theorem YI.snoc {G : Nat → Tok → Value} {i : Nat} {ys : List Value} {u : Tok} (H : YI G i ys) : YI G (i + 1) (ys ++ [G i u]) := by
  obtain ⟨t, rfl⟩ := H
  refine ⟨fun j => if j = i then u else t j, ?_⟩
  rw [List.range_succ, List.map_append]
  refine congr (congrArg _ (List.map_congr_left fun j hj => ?_)) ?_
  · rw [if_neg (Nat.ne_of_lt (List.mem_range.mp hj))]
  · show [G i u] = [G i (if i = i then u else t i)]
    rw [if_pos rfl]
theorem YI.three {G : Nat → Tok → Value} {ys : List Value} (H : YI G 3 ys) : ∃ t : Nat → Tok, ys = [G 0 (t 0), G 1 (t 1), G 2 (t 2)] := let ⟨t, e⟩ := H; ⟨t, e⟩
theorem three_item {f : Nat → Value} {i : Nat} {v : Value} (hi : i < 3) (h : #[f 0, f 1, f 2][i]? = some v) : v = f i := by
  match i, hi with
  | 0, _ => exact (Option.some.inj h).symm
  | 1, _ => exact (Option.some.inj h).symm
  | 2, _ => exact (Option.some.inj h).symm
end Mine
end
section
open PySem PySem.W PyProof.Rows PySem.Spec PySem.Calls PySem.Flt
set_option maxRecDepth 100000
set_option maxHeartbeats 0
namespace Mine
theorem pad_of_M5 : True := by
  w_top off
  trivial
theorem fill5 : (hd.heap_39 = hd.heap_39) ∧ (PySem.Challenge.rw_zo0002_01 = PySem.Challenge.rw_zo0002_01) := by
  k_fill
  exact ⟨rfl, rfl⟩
/- tb_start: a def without cells is entered; tb_rel: a def with cells is entered -/

/- comprehensions over a range, a list: turn by turn -/
local macro_rules | `(tactic| walk_at $k:str) => tbl [("CompSrc", true, [(``src_ledger, "R A A M zL ?"), (``src_range, "R A A S DR RD zL ?")])] k
local macro_rules | `(tactic| k_ne) => `(tactic| grind only)
theorem less_ok (w : World) (c e : Addr) (r g b x y z : Int) (u1 u2 u3 t1 t2 t3 : Tok) :
    CtrB w 3 101 [.ref c, .ref e] (fun h => h.IsList c #[.int r u1, .int g u2, .int b u3] ∧ h.IsList e #[.int x t1, .int y t2, .int z t3]) (fun h h' v => New3 h h' v (lessI (r - x) (g - y) (b - z))) := by
  refine' CtrB.bodyC [(Str.ofString "one", .ref c), (Str.ofString "other", .ref e)] ?k6 ?k7 ?k9 ?kB (by decide) ?kD ?c2 ?c3 ?c4 ?_
  case k6 => k_is
  case k7 => k_is
  case k9 => intro _; exact BindsTo.of_eq rfl
  case kB => exact rfl
  case kD => decide +kernel
  case c2 => exact rfl
  case c3 => exact rfl
  case c4 => exact rfl
  intro κ mean mg mb base s L' h' tk' cells' Q E hdp hu hc F' N' Y' B' X' T' hret
  refine hide fun GG hGG => ?_
  obtain ⟨hc1, hc2⟩ := hc
  k_cells Y'; (try simp only [List.cons_append, List.nil_append] at N')
  refine hGG ?_
  clear hGG
  (try dsimp only)
  k_steps
  refine ⟨fun g9 => ?_⟩
  (try dsimp only)
  refine rest_all 3 (fun i ys news => YI (fun j t => .int ([r, g, b].getD j 0 - [x, y, z].getD j 0) t) i ys ∧ news = _) ?st ?fn 3 0 [] _ rfl ⟨YI.nil _, rfl⟩
  case st =>
    rintro i ys _ hi ⟨HI, rfl⟩ v I oI C oC D m₂ h9 tk9 E' hv hC hx F9 N9 off ne Q' hQ'
    obtain ⟨tt, ev⟩ := hv
    rw [Int.zero_add] at ev
    subst ev
    (try dsimp only)
    k_steps
    exact hQ' _ _ (LCg.CompEnd.intro (by assumption) (by assumption) _ (fun q hq => hq) off True.intro ⟨HI.snoc, rfl⟩)
  case fn =>
    rintro ys _ ⟨HI, rfl⟩
    obtain ⟨t, rfl⟩ := HI.three
    (try dsimp only)
    k_steps
    rename Int => M9
    rename _ ≤ _ ∧ _ ≤ _ ∧ _ ≤ _ => b9
    rename _ = _ ∨ _ = _ ∨ _ = _ => a9
    have hM := min_is (a := r - x) (b := g - y) (c := b - z) a9 b9
    clear a9 b9
    refine ⟨fun g9 => ?_⟩
    (try dsimp only)
    refine rest_all 3 (fun i ys news => YI (fun j t => .int ([r, g, b].getD j 0 - [x, y, z].getD j 0 - M9) t) i ys ∧ news = _) ?st2 ?fn2 3 0 [] _ rfl ⟨YI.nil _, rfl⟩
    case st2 =>
      rintro i ys _ hi ⟨HI, rfl⟩ v I oI C oC D m₂ h9 tk9 E' hv hC hx F9 N9 off ne Q' hQ'
      obtain rfl := three_item (f := fun j => .int ([r, g, b].getD j 0 - [x, y, z].getD j 0) (t j)) hi hv
      (try dsimp only)
      k_steps
      exact hQ' _ _ (LCg.CompEnd.intro (by assumption) (by assumption) _ (fun q hq => hq) off (by lcg_src) ⟨HI.snoc, rfl⟩)
    case fn2 =>
      rintro ys _ ⟨HI, rfl⟩
      obtain ⟨t, rfl⟩ := HI.three
      (try dsimp only)
      k_steps
      (rename Fr s.heap _ _ _ => F9); (rename News s.heap _ _ _ => N9)
      refine hret _ _ _ _ F9 ⟨_, _, _, _, _, rfl, (N9 _ (.head _)).2.2, ((N9 _ (.head _)).1).trans (congrArg some (lst3 ?_ ?_ ?_))⟩
      · exact congrArg (fun q => r - x - q) hM
      · exact congrArg (fun q => g - y - q) hM
      · exact congrArg (fun q => b - z - q) hM
end Mine
end
section
open PySem PySem.W PyProof.Rows PySem.Spec PySem.Calls PySem.Flt
set_option maxRecDepth 100000
set_option maxHeartbeats 2000000
namespace Mine
open Sem (wp)
/- one statement, with a written middle; what stands behind it is hidden -/
theorem N_seq {M : Model} {A : Around} {s : Shared} {env : Env} {st : Stmt} {rest : List Stmt} {Q : Flow → Shared → Prop} (P : Shared → Prop) (h1 : ∀ Q' : Flow → Shared → Prop, (∀ s', P s' → Q' .next s') → wpN M A (exec st env) Q' s) (h2 : ∀ s', P s' → wpN M A (execs rest env) Q s') : wpN M A (execs (st :: rest) env) Q s :=
  N_cons (N_mono (h1 (fun f s' => f = .next ∧ P s') fun _ p => ⟨rfl, p⟩) fun f s' ⟨e, p⟩ => by subst e; exact h2 s' p)
theorem N_nil {M : Model} {A : Around} {s : Shared} {env : Env} {Q : Flow → Shared → Prop} (h : Q .next s) : wpN M A (execs [] env) Q s := N_pure h
/- a range's iterator: the next number, how many are left -/
noncomputable abbrev rIt (x left : Int) : Obj := { cls := .type "range_iterator", data := .fields #[rawInt x, rawInt left, rawInt 1] }
section
variable {prog : Program} {w : World} {A : Around} {E : Value → Shared → Prop} {s : Shared} {h₀ : Heap} {L I : Addr} {m : Str → Option Value} {news news' : List (Addr × Obj)} {env : Env}
theorem iter_rangeN {r : Addr} {a b n : Int} {t u v : Tok} {Q : Value → Shared → Prop} (hr : IsRange s.heap r a b 1 t u v) (hsmall : Builtin.Range.small a b 1 = true) (hn : Builtin.Range.rangeSize a b 1 = n) (F : Fr h₀ L s.heap m) (N : News h₀ L s.heap news)
    (h : ∀ I h', Fr h₀ L h' m → News h₀ L h' ((I, rIt a n) :: news) → (∀ q ∈ news, q.1 < I) → Q (.ref I) { s with heap := h' }) : wpAny (model prog w) A (pyIter (.ref r)) Q E s := by
  subst hn
  refine wpAny_pyIter_range hr hsmall ?_
  have kp : ∀ b' o, s.heap.get? b' = some o → (s.heap.push (rIt a (Builtin.Range.rangeSize a b 1))).get? b' = some o := fun b' o e => Heap.get?_push_of_some _ e
  refine h _ _ (F.grownK kp) (fun q hq => ?_) fun q hq => Heap.lt_size (N q hq).1
  rcases List.mem_cons.mp hq with rfl | hq
  · refine ⟨Heap.get?_push_size _ rfl, Nat.ne_of_gt F.ns.lt, ?_⟩
    cases e : h₀.get? s.heap.objs.size with
    | none => rfl
    | some o => exact absurd (Heap.lt_size (F.keep _ _ e)) (Nat.lt_irrefl _)
  · exact N.grown kp q hq
theorem next_rangeN {x left : Int} {Q : Option Value → Shared → Prop} (F : Fr h₀ L s.heap m) (N : News h₀ L s.heap news) (hl : 0 < left) (U : Upd I (rIt x left) (rIt (x + 1) (left - 1)) news news')
    (h : ∀ h' t tk, Fr h₀ L h' m → News h₀ L h' news' → Q (some (.int x t)) { s with heap := h', toks := tk }) : wpAny (model prog w) A (pyNext (.ref I)) Q E s := by
  obtain ⟨pre, post, rfl, rfl, ha, hp⟩ := U.split
  have z := N (I, rIt x left) (List.mem_append.mpr (.inr (.head _)))
  refine wpAny_pyNext_range_item (it := I) (x := x) (left := left) (step := 1) z.1 hl fun h' hit hs => ?_
  exact h h' _ _ (F.change hs z.2.1 z.2.2) (news_set N ha hp hs hit)
theorem end_rangeN {x left : Int} {pre post : List (Addr × Obj)} {Q : Option Value → Shared → Prop} (hh : A.handled = none) (F : Fr h₀ L s.heap m) (N : News h₀ L s.heap (pre ++ (I, rIt x left) :: post)) (hl : left ≤ 0) (ha : ∀ p ∈ pre ++ post, p.1 ≠ I)
    (h : ∀ h', Fr h₀ L h' m → News h₀ L h' (pre ++ post) → Q none { s with heap := h' }) : wpAny (model prog w) A (pyNext (.ref I)) Q E s := by
  have z := N (I, rIt x left) (List.mem_append.mpr (.inr (.head _)))
  refine wpAny_pyNext_range_end hh (it := I) (x := x) (left := left) (step := 1) z.1 hl fun h' hs => ?_
  refine h h' ?_ fun p hp => ?_
  · obtain ⟨oL, a1, a2, hoL, a3⟩ := F.ns
    exact ⟨⟨oL, a1, a2, hs L oL (Ne.symm z.2.1) hoL, a3⟩, fun b o e => hs b o (fun q => by rw [q] at e; rw [z.2.2] at e; cases e) (F.keep b o e), F.above⟩
  · have hp' : p ∈ pre ++ (I, rIt x left) :: post := by
      rcases List.mem_append.mp hp with q | q
      · exact List.mem_append.mpr (.inl q)
      · exact List.mem_append.mpr (.inr (.tail _ q))
    exact ⟨hs _ _ (ha p hp) (N p hp').1, (N p hp').2⟩
/- a for loop whose turns are told one by one -/
theorem N_turns {target : PySem.Expr} {body : List Stmt} {it : Value} {Q : Flow → Shared → Prop} (n : Nat) (P : Nat → Shared → Prop)
    (turn : ∀ i, i < n → ∀ s, P i s → ∀ Q' : Flow → Shared → Prop, (∀ s', P (i + 1) s' → Q' .next s') → wpAny (model prog w) A (pyNext it) (fun r s₁ => ∃ v, r = some v ∧ wpAny (model prog w) A (letOwnedTupleGo target it v) (fun _ s₁' => wpAny (model prog w) A (assign target env v) (fun _ s₂ => wpN (model prog w) A (execs body env) Q' s₂) noE s₁') noE s₁) noE s)
    (fin : ∀ s, P n s → wpAny (model prog w) A (pyNext it) (fun r s₁ => r = none ∧ Q .next s₁) noE s) :
    ∀ k i s, n - i = k → i ≤ n → P i s → codeN (model prog w) A (.forLoop target it body [] env) Q s := by
  intro k
  induction k with
  | zero =>
    intro i s hk hi hP
    have : i = n := by omega
    subst this
    refine N_loop (wpAny_mono (fin s hP) (fun r s₁ h₁ => ?_) fun _ _ x => x)
    obtain ⟨rfl, hq⟩ := h₁
    exact N_nil hq
  | succ k ih =>
    intro i s hk hi hP
    refine N_loop (wpAny_mono (turn i (by omega) s hP (fun f s₃ => f = .next ∧ P (i + 1) s₃) fun _ p => ⟨rfl, p⟩) (fun r s₁ h₁ => ?_) fun _ _ x => x)
    obtain ⟨v, rfl, h₁⟩ := h₁
    refine wpAny_mono h₁ (fun _ s₁' h₁' => wpAny_mono h₁' (fun _ s₂ h₂ => N_mono h₂ fun f s₃ h₃ => ?_) fun _ _ x => x) fun _ _ x => x
    obtain ⟨rfl, hP'⟩ := h₃
    exact ih (i + 1) s₃ (by omega) (by omega) hP'
end
section
variable {prog : Program} {w : World} {A : Around} {E : Value → Shared → Prop} {s : Shared} {a b : Int} {t u : Tok} {Q : Value → Shared → Prop}
theorem eq_int_t (e : a = b) (h : Q (.bool true) s) : wpAny (model prog w) A (compareOp .Eq (.int a t) (.int b u)) Q E s := PyProof.Rows.eq_int (by rw [show (a == b) = true from beq_iff_eq.mpr e]; exact h)
theorem eq_int_f (e : ¬ a = b) (h : Q (.bool false) s) : wpAny (model prog w) A (compareOp .Eq (.int a t) (.int b u)) Q E s := PyProof.Rows.eq_int (by rw [show (a == b) = false from beq_eq_false_iff_ne.mpr e]; exact h)
theorem ne_int_t (e : ¬ a = b) (h : Q (.bool true) s) : wpAny (model prog w) A (compareOp .NotEq (.int a t) (.int b u)) Q E s := PyProof.Rows.ne_int (by rw [show (a != b) = true from bne_iff_ne.mpr e]; exact h)
theorem ne_int_f (e : a = b) (h : Q (.bool false) s) : wpAny (model prog w) A (compareOp .NotEq (.int a t) (.int b u)) Q E s := PyProof.Rows.ne_int (by subst e; rw [show (a != a) = false from bne_self_eq_false a]; exact h)
end
end Mine
end
section
open PySem PySem.W PyProof.Rows PySem.Spec PySem.Calls PySem.Flt
namespace Mine
/- a turn of a comprehension that makes nothing: the ledger's tail may be a variable -/
theorem CompEnd_same {h₀ : Heap} {L I C D : Addr} {m : Str → Option Value} {s₁ : Shared} {oI oC oD : Obj} {S : List (Addr × Obj) → Prop} {rest : Value → List (Addr × Obj) → Prop} {y : Value} {h' : Heap} {tk : Nat} {news : List (Addr × Obj)}
    (F : Fr h₀ L h' m) (N : News h₀ L h' ((I, oI) :: (C, oC) :: (D, oD) :: news)) (off : LCg.Off3 I C D news) (hS : S news) (r : rest y news) :
    LCg.CompEnd h₀ L m s₁ I oI C oC D oD S rest y { s₁ with heap := h', toks := tk } := LCg.CompEnd.intro F N news (fun _ h => h) off hS r
/- two addresses that are not the same (kept from omega) -/
structure Apart (a b : Nat) : Prop where
  ne : a ≠ b
/- an address beside all of a ledger's tail -/
structure Beside (a : Nat) (l : List (Addr × Obj)) : Prop where
  ne : ∀ p ∈ l, p.1 ≠ a
theorem Beside.nil (a : Nat) : Beside a [] := ⟨fun _ h => nomatch h⟩
theorem Beside.cons {a b : Nat} {o : Obj} {l : List (Addr × Obj)} (h : Apart b a) (t : Beside a l) : Beside a ((b, o) :: l) := ⟨fun p hp => by
  rcases List.mem_cons.mp hp with rfl | hp
  · exact h.ne
  · exact t.ne p hp⟩
end Mine
end
section
open PySem PySem.W PyProof.Rows PySem.Spec PySem.Calls PySem.Flt
set_option maxRecDepth 100000
namespace Mine
/- an item of a list of the base, at an unknown place -/
theorem item_base {prog : Program} {w : World} {A : Around} {E : Value → Shared → Prop} {s : Shared} {h₀ : Heap} {L c : Addr} {m : Str → Option Value} {its : Array Value} {n : Int} {t : Tok} {x : Value} {value slice : PySem.Expr} {Q : Value → Shared → Prop}
    (F : Fr h₀ L s.heap m) (hl : h₀.IsList c its) (h0 : 0 ≤ n) (hfit : n < 2 ^ 63) (hx : its[n.toNat]? = some x) (h : Q x s)
    (hs : subscripted slice false (.ref c) (.int n t) = operate [.ref c, .int n t] (getItem (.ref c) (.int n t)) := by with_unfolding_all rfl)
    (ht : ∀ r, letTemporaryGo value (.ref c) r = pure () := by intro _; with_unfolding_all rfl) :
    wpAny (model prog w) A (subscriptTail value slice (.ref c) (.int n t)) Q E s := by
  have hl' : s.heap.IsList c its := let ⟨o, ho, r⟩ := hl; ⟨o, F.keep _ _ ho, r⟩
  exact tail_of_ItemOn ⟨"list", _, slot_list_getitem.lookup, hl'.typeIs, wpAny_getItem_list hl' h0 hfit hx h⟩ hs ht
/- an item of a base list of three ints -/
theorem item_base3 {prog : Program} {w : World} {A : Around} {E : Value → Shared → Prop} {s : Shared} {h₀ : Heap} {L c : Addr} {m : Str → Option Value} {a b d n : Int} {u1 u2 u3 t : Tok} {value slice : PySem.Expr} {Q : Value → Shared → Prop}
    (F : Fr h₀ L s.heap m) (hl : h₀.IsList c #[.int a u1, .int b u2, .int d u3]) (h0 : 0 ≤ n) (h3 : n < 3) (h : ∀ t', Q (.int ([a, b, d].getD n.toNat 0) t') s)
    (hs : subscripted slice false (.ref c) (.int n t) = operate [.ref c, .int n t] (getItem (.ref c) (.int n t)) := by with_unfolding_all rfl)
    (ht : ∀ r, letTemporaryGo value (.ref c) r = pure () := by intro _; with_unfolding_all rfl) :
    wpAny (model prog w) A (subscriptTail value slice (.ref c) (.int n t)) Q E s := by
  obtain ⟨j, rfl⟩ := Int.eq_ofNat_of_zero_le h0
  have hj : j = 0 ∨ j = 1 ∨ j = 2 := by omega
  rcases hj with rfl | rfl | rfl
  · exact item_base F hl h0 (by decide) rfl (h u1) hs ht
  · exact item_base F hl h0 (by decide) rfl (h u2) hs ht
  · exact item_base F hl h0 (by decide) rfl (h u3) hs ht
end Mine
end
section
/- plain law: Petr, Douglas, Neumann (no program in sight) -/
namespace Mine
noncomputable abbrev Col := Int × Int × Int
/- a colour but for its grey -/
noncomputable def key (c : Col) : Int × Int := (c.1 - c.2.1, c.2.1 - c.2.2)
/- one sixth of a turn, z times, on keys -/
noncomputable def rho (z : Int) (p : Int × Int) : Int × Int :=
  if z = 1 then (-p.2, p.1 + p.2) else if z = 2 then (-p.1 - p.2, p.1) else if z = 3 then (-p.1, -p.2) else if z = 4 then (p.2, -p.1 - p.2) else (p.1 + p.2, -p.1)
noncomputable def subK (p q : Int × Int) : Int × Int := (p.1 - q.1, p.2 - q.2)
noncomputable def addK (p q : Int × Int) : Int × Int := (p.1 + q.1, p.2 + q.2)
/- every key gives way to what the next is more than itself turned by z -/
noncomputable def stepK (z : Int) (f : Nat → Int × Int) (k : Nat) : Int × Int := subK (f ((k + 1) % 6)) (rho z (f k))
noncomputable def foldK (zs : List Int) (f : Nat → Int × Int) : Nat → Int × Int := zs.foldl (fun f z => stepK z f) f
theorem rho_cases (z : Int) : (∀ p, rho z p = (-p.2, p.1 + p.2)) ∨ (∀ p, rho z p = (-p.1 - p.2, p.1)) ∨ (∀ p, rho z p = (-p.1, -p.2)) ∨ (∀ p, rho z p = (p.2, -p.1 - p.2)) ∨ (∀ p, rho z p = (p.1 + p.2, -p.1)) := by
  unfold rho
  by_cases h1 : z = 1
  · exact .inl fun p => by rw [if_pos h1]
  · by_cases h2 : z = 2
    · exact .inr (.inl fun p => by rw [if_neg h1, if_pos h2])
    · by_cases h3 : z = 3
      · exact .inr (.inr (.inl fun p => by rw [if_neg h1, if_neg h2, if_pos h3]))
      · by_cases h4 : z = 4
        · exact .inr (.inr (.inr (.inl fun p => by rw [if_neg h1, if_neg h2, if_neg h3, if_pos h4])))
        · exact .inr (.inr (.inr (.inr fun p => by rw [if_neg h1, if_neg h2, if_neg h3, if_neg h4])))
theorem rho_sub (z : Int) (p q : Int × Int) : rho z (subK p q) = subK (rho z p) (rho z q) := by
  rcases rho_cases z with h | h | h | h | h <;> (rw [h, h, h]; unfold subK; refine Prod.ext ?_ ?_ <;> dsimp only <;> lia)
theorem rho_comm (z w : Int) (p : Int × Int) : rho z (rho w p) = rho w (rho z p) := by
  rcases rho_cases z with h | h | h | h | h <;> rcases rho_cases w with g | g | g | g | g <;> (rw [h, h, g, g]; try (refine Prod.ext ?_ ?_ <;> dsimp only <;> lia))
theorem stepK_comm (z w : Int) (f : Nat → Int × Int) : stepK z (stepK w f) = stepK w (stepK z f) := by
  funext k
  unfold stepK
  rw [rho_sub, rho_sub, rho_comm z w]
  generalize rho w (rho z (f k)) = e
  generalize rho z (f ((k + 1) % 6)) = a
  generalize rho w (f ((k + 1) % 6)) = b
  unfold subK
  refine Prod.ext ?_ ?_ <;> dsimp only <;> lia
theorem foldK_perm {zs ws : List Int} (h : zs.Perm ws) : ∀ f, foldK zs f = foldK ws f := by
  induction h with
  | nil => intro f; rfl
  | cons x _ ih => intro f; exact ih _
  | swap x y l => intro f; show foldK l (stepK x (stepK y f)) = foldK l (stepK y (stepK x f)); rw [stepK_comm]
  | trans _ _ ih1 ih2 => intro f; rw [ih1, ih2]
noncomputable def sumK (f : Nat → Int × Int) : Nat → Int × Int
  | 0 => f 0
  | n + 1 => if n < 5 then addK (sumK f n) (f (n + 1)) else sumK f n
/- what grows at the corners: n, turned by l, the heap laid on -/
noncomputable def grownK (l : Int) (f : Nat → Int × Int) : Nat → Int × Int
  | 0 => sumK f 0
  | n + 1 => addK (rho l (grownK l f n)) (sumK f (n + 1))
/- a ring element a + b rho times a key -/
noncomputable def mulK (c p : Int × Int) : Int × Int := (c.1 * p.1 - c.2 * p.2, c.1 * p.2 + c.2 * (p.1 + p.2))
/- a combination of the keys from i on -/
noncomputable def evK (f : Nat → Int × Int) : List (Int × Int) → Nat → Int × Int
  | [], _ => (0, 0)
  | c :: cs, i => addK (mulK c (f i)) (evK f cs (i + 1))
theorem rho_mulK (z : Int) (c p : Int × Int) : rho z (mulK c p) = mulK (rho z c) p := by
  obtain ⟨a, b⟩ := c
  obtain ⟨x, y⟩ := p
  rcases rho_cases z with h | h | h | h | h <;> (rw [h, h]; unfold mulK; refine Prod.ext ?_ ?_ <;> dsimp only <;> simp only [Int.mul_add, Int.add_mul, Int.neg_mul, Int.sub_mul] <;> lia)
theorem rho_add (z : Int) (p q : Int × Int) : rho z (addK p q) = addK (rho z p) (rho z q) := by
  rcases rho_cases z with h | h | h | h | h <;> (rw [h, h, h]; unfold addK; refine Prod.ext ?_ ?_ <;> dsimp only <;> lia)
theorem rho_zero (z : Int) : rho z (0, 0) = (0, 0) := by
  rcases rho_cases z with h | h | h | h | h <;> rw [h] <;> rfl
theorem ev_rho (z : Int) (f : Nat → Int × Int) : ∀ cs i, evK f (cs.map (rho z)) i = rho z (evK f cs i)
  | [], _ => (rho_zero z).symm
  | c :: cs, i => by
    show addK (mulK (rho z c) (f i)) (evK f (cs.map (rho z)) (i + 1)) = rho z (addK (mulK c (f i)) (evK f cs (i + 1)))
    rw [rho_add, rho_mulK, ev_rho z f cs]
theorem mulK_add (c d p : Int × Int) : mulK (addK c d) p = addK (mulK c p) (mulK d p) := by
  unfold mulK addK
  refine Prod.ext ?_ ?_ <;> dsimp only <;> rw [Int.add_mul, Int.add_mul] <;> lia
theorem mulK_sub (c d p : Int × Int) : mulK (subK c d) p = subK (mulK c p) (mulK d p) := by
  unfold mulK subK
  refine Prod.ext ?_ ?_ <;> dsimp only <;> rw [Int.sub_mul, Int.sub_mul] <;> lia
theorem addK_swap (a b c d : Int × Int) : addK (addK a b) (addK c d) = addK (addK a c) (addK b d) := by
  unfold addK
  refine Prod.ext ?_ ?_ <;> dsimp only <;> lia
theorem subK_swap (a b c d : Int × Int) : addK (subK a b) (subK c d) = subK (addK a c) (addK b d) := by
  unfold addK subK
  refine Prod.ext ?_ ?_ <;> dsimp only <;> lia
theorem ev_add (f : Nat → Int × Int) : ∀ cs ds i, cs.length = ds.length → evK f (List.zipWith addK cs ds) i = addK (evK f cs i) (evK f ds i)
  | [], [], _, _ => rfl
  | c :: cs, d :: ds, i, h => by
    show addK (mulK (addK c d) (f i)) (evK f (List.zipWith addK cs ds) (i + 1)) = addK (addK (mulK c (f i)) (evK f cs (i + 1))) (addK (mulK d (f i)) (evK f ds (i + 1)))
    rw [mulK_add, ev_add f cs ds (i + 1) (Nat.succ.inj h), addK_swap]
theorem ev_sub (f : Nat → Int × Int) : ∀ cs ds i, cs.length = ds.length → evK f (List.zipWith subK cs ds) i = subK (evK f cs i) (evK f ds i)
  | [], [], _, _ => rfl
  | c :: cs, d :: ds, i, h => by
    show addK (mulK (subK c d) (f i)) (evK f (List.zipWith subK cs ds) (i + 1)) = subK (addK (mulK c (f i)) (evK f cs (i + 1))) (addK (mulK d (f i)) (evK f ds (i + 1)))
    rw [mulK_sub, ev_sub f cs ds (i + 1) (Nat.succ.inj h), subK_swap]
/- g k tells h k as a combination of f's -/
noncomputable def TellK (f : Nat → Int × Int) (g : List (Int × Int)) (p : Int × Int) : Prop := g.length = 6 ∧ evK f g 0 = p
noncomputable def basK (k : Nat) : List (Int × Int) := (List.range 6).map (fun j => if j = k then (1, 0) else (0, 0))
noncomputable def stepL (z : Int) (g : Nat → List (Int × Int)) (k : Nat) : List (Int × Int) := List.zipWith subK (g ((k + 1) % 6)) ((g k).map (rho z))
noncomputable def foldL (zs : List Int) (g : Nat → List (Int × Int)) : Nat → List (Int × Int) := zs.foldl (fun g z => stepL z g) g
noncomputable def sumL (g : Nat → List (Int × Int)) : Nat → List (Int × Int)
  | 0 => g 0
  | n + 1 => if n < 5 then List.zipWith addK (sumL g n) (g (n + 1)) else sumL g n
noncomputable def grownL (l : Int) (g : Nat → List (Int × Int)) : Nat → List (Int × Int)
  | 0 => sumL g 0
  | n + 1 => List.zipWith addK ((grownL l g n).map (rho l)) (sumL g (n + 1))
theorem TellK.add {f g h p q} (a : TellK f g p) (b : TellK f h q) : TellK f (List.zipWith addK g h) (addK p q) :=
  ⟨by rw [List.length_zipWith, a.1, b.1]; rfl, by rw [ev_add f g h 0 (a.1.trans b.1.symm), a.2, b.2]⟩
theorem TellK.sub {f g h p q} (a : TellK f g p) (b : TellK f h q) : TellK f (List.zipWith subK g h) (subK p q) :=
  ⟨by rw [List.length_zipWith, a.1, b.1]; rfl, by rw [ev_sub f g h 0 (a.1.trans b.1.symm), a.2, b.2]⟩
theorem TellK.turn {f g p} (a : TellK f g p) (z : Int) : TellK f (g.map (rho z)) (rho z p) :=
  ⟨by rw [List.length_map, a.1], by rw [ev_rho, a.2]⟩
theorem mod6 (k : Nat) : (k + 1) % 6 < 6 := Nat.mod_lt _ (by decide)
theorem tell_fold (f : Nat → Int × Int) : ∀ (zs : List Int) (g : Nat → List (Int × Int)) (h : Nat → Int × Int), (∀ k, k < 6 → TellK f (g k) (h k)) → ∀ k, k < 6 → TellK f (foldL zs g k) (foldK zs h k)
  | [], _, _, a, k, hk => a k hk
  | z :: zs, g, h, a, k, hk => tell_fold f zs (stepL z g) (stepK z h) (fun j hj => (a _ (mod6 j)).sub ((a j hj).turn z)) k hk
theorem tell_sum (f : Nat → Int × Int) (g : Nat → List (Int × Int)) (h : Nat → Int × Int) (a : ∀ k, k < 6 → TellK f (g k) (h k)) : ∀ n, TellK f (sumL g n) (sumK h n)
  | 0 => a 0 (by decide)
  | n + 1 => by
    unfold sumL sumK
    by_cases c : n < 5
    · rw [if_pos c, if_pos c]
      exact (tell_sum f g h a n).add (a _ (Nat.succ_lt_succ c))
    · rw [if_neg c, if_neg c]
      exact tell_sum f g h a n
theorem tell_grown (l : Int) (f : Nat → Int × Int) (g : Nat → List (Int × Int)) (h : Nat → Int × Int) (a : ∀ k, k < 6 → TellK f (g k) (h k)) : ∀ n, TellK f (grownL l g n) (grownK l h n)
  | 0 => tell_sum f g h a 0
  | n + 1 => ((tell_grown l f g h a n).turn l).add (tell_sum f g h a (n + 1))
theorem mulK_one (p : Int × Int) : mulK (1, 0) p = p := by unfold mulK; refine Prod.ext ?_ ?_ <;> dsimp only <;> lia
theorem mulK_zero (p : Int × Int) : mulK (0, 0) p = (0, 0) := by unfold mulK; refine Prod.ext ?_ ?_ <;> dsimp only <;> lia
theorem addK_zero (p : Int × Int) : addK p (0, 0) = p := by unfold addK; refine Prod.ext ?_ ?_ <;> dsimp only <;> lia
theorem zero_addK (p : Int × Int) : addK (0, 0) p = p := by unfold addK; refine Prod.ext ?_ ?_ <;> dsimp only <;> lia
theorem lt6 {k : Nat} (hk : k < 6) : k = 0 ∨ k = 1 ∨ k = 2 ∨ k = 3 ∨ k = 4 ∨ k = 5 := by lia
theorem tell_bas (f : Nat → Int × Int) (k : Nat) (hk : k < 6) : TellK f (basK k) (f k) := by
  rcases lt6 hk with rfl | rfl | rfl | rfl | rfl | rfl <;> refine ⟨rfl, ?_⟩
  · show addK (mulK (1, 0) (f 0)) (addK (mulK (0, 0) (f 1)) (addK (mulK (0, 0) (f 2)) (addK (mulK (0, 0) (f 3)) (addK (mulK (0, 0) (f 4)) (addK (mulK (0, 0) (f 5)) (0, 0)))))) = f 0
    simp only [mulK_one, mulK_zero, addK_zero, zero_addK]
  · show addK (mulK (0, 0) (f 0)) (addK (mulK (1, 0) (f 1)) (addK (mulK (0, 0) (f 2)) (addK (mulK (0, 0) (f 3)) (addK (mulK (0, 0) (f 4)) (addK (mulK (0, 0) (f 5)) (0, 0)))))) = f 1
    simp only [mulK_one, mulK_zero, addK_zero, zero_addK]
  · show addK (mulK (0, 0) (f 0)) (addK (mulK (0, 0) (f 1)) (addK (mulK (1, 0) (f 2)) (addK (mulK (0, 0) (f 3)) (addK (mulK (0, 0) (f 4)) (addK (mulK (0, 0) (f 5)) (0, 0)))))) = f 2
    simp only [mulK_one, mulK_zero, addK_zero, zero_addK]
  · show addK (mulK (0, 0) (f 0)) (addK (mulK (0, 0) (f 1)) (addK (mulK (0, 0) (f 2)) (addK (mulK (1, 0) (f 3)) (addK (mulK (0, 0) (f 4)) (addK (mulK (0, 0) (f 5)) (0, 0)))))) = f 3
    simp only [mulK_one, mulK_zero, addK_zero, zero_addK]
  · show addK (mulK (0, 0) (f 0)) (addK (mulK (0, 0) (f 1)) (addK (mulK (0, 0) (f 2)) (addK (mulK (0, 0) (f 3)) (addK (mulK (1, 0) (f 4)) (addK (mulK (0, 0) (f 5)) (0, 0)))))) = f 4
    simp only [mulK_one, mulK_zero, addK_zero, zero_addK]
  · show addK (mulK (0, 0) (f 0)) (addK (mulK (0, 0) (f 1)) (addK (mulK (0, 0) (f 2)) (addK (mulK (0, 0) (f 3)) (addK (mulK (0, 0) (f 4)) (addK (mulK (1, 0) (f 5)) (0, 0)))))) = f 5
    simp only [mulK_one, mulK_zero, addK_zero, zero_addK]
theorem fold5 (f : Nat → Int × Int) (k : Nat) (hk : k < 6) : foldK [1, 2, 3, 4, 5] f k = sumK f 5 := by
  have e : foldL [1, 2, 3, 4, 5] basK k = sumL basK 5 := by
    rcases lt6 hk with rfl | rfl | rfl | rfl | rfl | rfl <;> decide +kernel
  rw [← (tell_fold f _ basK f (tell_bas f) k hk).2, e, (tell_sum f basK f (tell_bas f) 5).2]
theorem fold4_L (l : Int) (ws : List Int) (hw : (l = 1 ∧ ws = [2, 3, 4, 5]) ∨ (l = 2 ∧ ws = [1, 3, 4, 5]) ∨ (l = 3 ∧ ws = [1, 2, 4, 5]) ∨ (l = 4 ∧ ws = [1, 2, 3, 5]) ∨ (l = 5 ∧ ws = [1, 2, 3, 4])) (k : Nat) (hk : k < 6) :
    foldL ws basK k = grownL l basK (k + 4) := by
  rcases hw with ⟨rfl, rfl⟩ | ⟨rfl, rfl⟩ | ⟨rfl, rfl⟩ | ⟨rfl, rfl⟩ | ⟨rfl, rfl⟩ <;> rcases lt6 hk with rfl | rfl | rfl | rfl | rfl | rfl <;> decide +kernel
theorem fold4 (l : Int) (ws : List Int) (hw : (l = 1 ∧ ws = [2, 3, 4, 5]) ∨ (l = 2 ∧ ws = [1, 3, 4, 5]) ∨ (l = 3 ∧ ws = [1, 2, 4, 5]) ∨ (l = 4 ∧ ws = [1, 2, 3, 5]) ∨ (l = 5 ∧ ws = [1, 2, 3, 4])) (f : Nat → Int × Int) (k : Nat) (hk : k < 6) :
    foldK ws f k = grownK l f (k + 4) := by
  rw [← (tell_fold f _ basK f (tell_bas f) k hk).2, fold4_L l ws hw k hk, (tell_grown l f basK f (tell_bas f) (k + 4)).2]
end Mine
end
section
set_option maxRecDepth 100000
namespace Mine
open PySem PySem.Float64

noncomputable def KN : Nat := 2 ^ 1074
theorem KN_pos : 0 < KN := Nat.two_pow_pos _
noncomputable def KI : Rat := (KN : Rat)⁻¹
theorem KI_pos : 0 < KI := Rat.inv_pos.mpr (by exact_mod_cast KN_pos)
theorem KI_mul : (KN : Rat) * KI = 1 := Rat.mul_inv_cancel _ (by have h : (0 : Rat) < (KN : Rat) := (by exact_mod_cast KN_pos); exact Rat.ne_of_gt h)
/- the number that a float stands for -/
noncomputable def v (x : UInt64) : Rat := (val x : Rat) * KI
noncomputable abbrev Fn (x : UInt64) : Prop := isFinite x = true
theorem fn_dec {x : UInt64} (h : Fn x) : ∃ a m e, decode x = .fin a m e := by
  unfold Fn isFinite at h
  cases hd : decode x with
  | nan => rw [hd] at h; cases h
  | inf s => rw [hd] at h; cases h
  | fin a m e => exact ⟨a, m, e, rfl⟩
theorem fn_of {x : UInt64} {a : Bool} {m : Nat} {e : Int} (h : decode x = .fin a m e) : Fn x := by unfold Fn isFinite; rw [h]
/- the float grid: every small multiple of 2^B is met -/
theorem grid {j B : Nat} (hj : j < 2 ^ 53) (hB : 52 ≤ B) : ∃ t, V t = j * 2 ^ B := by
  by_cases h0 : j = 0
  · exact ⟨0, by rw [V_zero, h0, Nat.zero_mul]⟩
  · have hl : j.log2 ≤ 52 := by
      have := (Nat.log2_lt h0).mpr hj
      lia
    have h1 : 2 ^ j.log2 ≤ j := Nat.log2_self_le h0
    have h2 : j < 2 ^ (j.log2 + 1) := (Nat.log2_lt h0).mp (Nat.lt_succ_self _)
    have e52 : 2 ^ j.log2 * 2 ^ (52 - j.log2) = 2 ^ 52 := by rw [← Nat.pow_add]; congr 1; lia
    have e53 : 2 ^ (j.log2 + 1) * 2 ^ (52 - j.log2) = 2 ^ 53 := by rw [← Nat.pow_add]; congr 1; lia
    have hp : 0 < 2 ^ (52 - j.log2) := Nat.two_pow_pos _
    refine ⟨(B - (52 - j.log2)) * 2 ^ 52 + j * 2 ^ (52 - j.log2), ?_⟩
    rw [V_at (Nat.le_of_lt (e53 ▸ Nat.mul_lt_mul_of_pos_right h2 hp)) (.inl (e52 ▸ Nat.mul_le_mul_right _ h1)), Nat.mul_assoc, ← Nat.pow_add]
    congr 2; lia
theorem right_val {r : UInt64} {neg : Bool} {W D : Nat} (h : Right r neg W D) (hb : 2 * W < D * ((2 ^ 54 - 1) * 2 ^ 2045)) :
    Fn r ∧ ∃ t, val r = sgn neg (V t) ∧ ∀ t', dist W (D * V t) ≤ dist W (D * V t') := by
  obtain ⟨t, rfl, hle, hiff, hmin⟩ := h
  have hlt : t < infMag := Nat.lt_of_le_of_ne hle fun e => by have := hiff.mp e; lia
  obtain ⟨m, e, hd, _⟩ := decode_pack neg hlt
  exact ⟨fn_of hd, t, val_pack neg hlt, fun t' => (hmin hlt t').1⟩
theorem bound_of {W D B : Nat} (hB : B ≤ 1200) (hD : 0 < D) (hW : W < D * (2 ^ 53 * 2 ^ B)) : 2 * W < D * ((2 ^ 54 - 1) * 2 ^ 2045) := by
  have h1 : 2 * (2 ^ 53 * 2 ^ B) ≤ (2 ^ 54 - 1) * 2 ^ 2045 := by
    have : 2 ^ B ≤ 2 ^ 1200 := Nat.pow_le_pow_right (by decide) hB
    calc 2 * (2 ^ 53 * 2 ^ B) ≤ 2 * (2 ^ 53 * 2 ^ 1200) := by lia
      _ ≤ (2 ^ 54 - 1) * 2 ^ 2045 := by decide +kernel
  calc 2 * W < 2 * (D * (2 ^ 53 * 2 ^ B)) := by lia
    _ = D * (2 * (2 ^ 53 * 2 ^ B)) := by rw [Nat.mul_left_comm]
    _ ≤ _ := Nat.mul_le_mul_left _ h1
theorem near {W D B t : Nat} (hB : 52 ≤ B) (hD : 0 < D) (hW : W < D * (2 ^ 53 * 2 ^ B)) (hm : ∀ t', dist W (D * V t) ≤ dist W (D * V t')) : dist W (D * V t) ≤ D * 2 ^ B := by
  have hG : 0 < D * 2 ^ B := Nat.mul_pos hD (Nat.two_pow_pos _)
  have hj : W / (D * 2 ^ B) < 2 ^ 53 := by
    rw [Nat.div_lt_iff_lt_mul hG]
    calc W < D * (2 ^ 53 * 2 ^ B) := hW
      _ = 2 ^ 53 * (D * 2 ^ B) := by rw [Nat.mul_left_comm]
  obtain ⟨t', ht'⟩ := grid hj hB
  refine Nat.le_trans (hm t') ?_
  rw [ht']
  have e : D * (W / (D * 2 ^ B) * 2 ^ B) = D * 2 ^ B * (W / (D * 2 ^ B)) := by rw [Nat.mul_left_comm, Nat.mul_comm, ]
  have h1 := Nat.div_add_mod W (D * 2 ^ B)
  have h2 := Nat.mod_lt W hG
  unfold dist
  rw [e]
  omega
theorem just {W D B t j : Nat} (hB : 52 ≤ B) (hD : 0 < D) (hj : j < 2 ^ 53) (hW : W = D * (j * 2 ^ B)) (hm : ∀ t', dist W (D * V t) ≤ dist W (D * V t')) : V t = j * 2 ^ B := by
  obtain ⟨t', ht'⟩ := grid hj hB
  have := hm t'
  rw [ht', hW] at this
  unfold dist at this
  have h3 : D * (j * 2 ^ B) = D * V t := by lia
  exact (Nat.eq_of_mul_eq_mul_left hD h3).symm
/- what one step of the float grid is -/
noncomputable def E (B : Nat) : Rat := ((2 ^ B : Nat) : Rat) * KI
noncomputable def sg (n : Bool) : Rat := if n then -1 else 1
theorem v_sgn {r : UInt64} {n : Bool} {m : Nat} (h : val r = sgn n m) : v r = sg n * (m : Rat) * KI := by
  unfold v sg
  rw [h]
  unfold sgn
  cases n
  · simp only [Bool.false_eq_true, if_false, Rat.one_mul]; rfl
  · simp only [if_true]
    rw [Rat.intCast_neg, Rat.intCast_natCast]
    grind
theorem right_err {r : UInt64} {n : Bool} {W D B : Nat} (h : Right r n W D) (hB : 52 ≤ B ∧ B ≤ 1200) (hD : 0 < D) (hW : W < D * (2 ^ 53 * 2 ^ B)) :
    Fn r ∧ v r * D ≤ sg n * W * KI + D * E B ∧ sg n * W * KI - D * E B ≤ v r * D := by
  obtain ⟨hf, t, hv, hm⟩ := right_val h (bound_of hB.2 hD hW)
  have hn := near hB.1 hD hW hm
  refine ⟨hf, ?_⟩
  rw [v_sgn hv]
  unfold E
  have hK := Rat.le_of_lt KI_pos
  have h1 : (W : Rat) ≤ D * V t + D * (2 ^ B : Nat) := by
    have : W ≤ D * V t + D * 2 ^ B := by unfold dist at hn; omega
    exact_mod_cast this
  have h2 : (D : Rat) * V t ≤ W + D * (2 ^ B : Nat) := by
    have : D * V t ≤ W + D * 2 ^ B := by unfold dist at hn; omega
    exact_mod_cast this
  generalize ((2 ^ B : Nat) : Rat) = G at *
  generalize (V t : Rat) = T at *
  generalize (W : Rat) = w at *
  generalize (D : Rat) = d at *
  have a1 := Rat.mul_le_mul_of_nonneg_right h1 hK
  have a2 := Rat.mul_le_mul_of_nonneg_right h2 hK
  unfold sg
  cases n <;> simp only [Bool.false_eq_true, if_false, if_true] <;> constructor <;> grind
theorem right_just {r : UInt64} {n : Bool} {W D B j : Nat} (h : Right r n W D) (hB : 52 ≤ B ∧ B ≤ 1200) (hD : 0 < D) (hj : j < 2 ^ 53) (hW : W = D * (j * 2 ^ B)) :
    Fn r ∧ v r = sg n * j * E B := by
  have hlt : W < D * (2 ^ 53 * 2 ^ B) := by rw [hW]; exact Nat.mul_lt_mul_of_pos_left (Nat.mul_lt_mul_of_pos_right hj (Nat.two_pow_pos _)) hD
  obtain ⟨hf, t, hv, hm⟩ := right_val h (bound_of hB.2 hD hlt)
  refine ⟨hf, ?_⟩
  rw [just hB.1 hD hj hW hm] at hv
  rw [v_sgn hv]
  unfold E
  rw [Rat.natCast_mul]
  grind
end Mine
end
section
set_option maxRecDepth 100000
namespace Mine
open PySem PySem.Float64

theorem v_zero (n : Bool) : Fn (zero n) ∧ v (zero n) = 0 := by
  have hd : decode (zero n) = .fin n 0 (-1074) := by cases n <;> with_unfolding_all rfl
  refine ⟨fn_of hd, ?_⟩
  unfold v
  rw [val_eq hd]
  cases n <;> simp [sgn]
theorem natAbs_lt {z : Int} {B : Nat} (h1 : (z : Rat) * KI < 2 ^ 53 * E B) (h2 : -(2 ^ 53 * E B) < (z : Rat) * KI) : z.natAbs < 2 ^ 53 * 2 ^ B := by
  have hK := KI_pos
  have e : (2 ^ 53 * E B : Rat) = ((2 ^ 53 * 2 ^ B : Nat) : Rat) * KI := by
    unfold E; rw [Rat.natCast_mul]; grind
  rw [e] at h1 h2
  have a1 : (z : Rat) < ((2 ^ 53 * 2 ^ B : Nat) : Rat) := Rat.lt_of_mul_lt_mul_right h1 (Rat.le_of_lt hK)
  have a2 : -((2 ^ 53 * 2 ^ B : Nat) : Rat) < (z : Rat) := by
    refine Rat.lt_of_mul_lt_mul_right (c := KI) ?_ (Rat.le_of_lt hK)
    grind
  generalize 2 ^ 53 * 2 ^ B = n at *
  have b1 : z < (n : Int) := by exact_mod_cast a1
  have a3 : ((-(n : Int) : Int) : Rat) < (z : Rat) := by rw [Rat.intCast_neg, Rat.intCast_natCast]; exact a2
  have b2 : -(n : Int) < z := Rat.intCast_lt_intCast.mp a3
  omega
theorem sg_abs (z : Int) : sg (decide (z < 0)) * (z.natAbs : Rat) = (z : Rat) := by
  unfold sg
  by_cases h : z < 0
  · simp only [h, decide_true, if_true]
    have : (z : Int) = -(z.natAbs : Int) := by omega
    generalize z.natAbs = n at *
    subst this
    rw [Rat.intCast_neg, Rat.intCast_natCast]; grind
  · simp only [h, decide_false, Bool.false_eq_true, if_false]
    have : (z : Int) = (z.natAbs : Int) := by omega
    generalize z.natAbs = n at *
    subst this
    rw [Rat.intCast_natCast]; grind
theorem v_add (x y : UInt64) : v x + v y = ((val x + val y : Int) : Rat) * KI := by unfold v; rw [Rat.intCast_add]; grind
theorem v_sub (x y : UInt64) : v x - v y = ((val x - val y : Int) : Rat) * KI := by unfold v; rw [Rat.intCast_sub]; grind

section
variable {x y : UInt64} {B : Nat}
theorem E_nonneg (B : Nat) : 0 ≤ E B := Rat.mul_nonneg (by exact_mod_cast Nat.zero_le _) (Rat.le_of_lt KI_pos)
theorem sum_err {r : UInt64} {z : Int} {n : Bool} (hz : z = 0 → r = zero n) (hnz : z ≠ 0 → Right r (decide (z < 0)) z.natAbs 1) (hB : 52 ≤ B ∧ B ≤ 1200) (h1 : (z : Rat) * KI < 2 ^ 53 * E B) (h2 : -(2 ^ 53 * E B) < (z : Rat) * KI) :
    Fn r ∧ v r ≤ (z : Rat) * KI + E B ∧ (z : Rat) * KI - E B ≤ v r := by
  have hE := E_nonneg B
  by_cases h0 : z = 0
  · rw [hz h0, h0]
    obtain ⟨a, b⟩ := v_zero n
    refine ⟨a, ?_⟩
    rw [b]
    simp only [Rat.intCast_zero]
    constructor <;> grind
  · have hR := right_err (B := B) (hnz h0) hB Nat.one_pos (by rw [Nat.one_mul]; exact natAbs_lt h1 h2)
    rw [sg_abs] at hR
    refine ⟨hR.1, ?_⟩
    have a := hR.2.1
    have b := hR.2.2
    simp only [Rat.natCast_ofNat, Rat.mul_one, Rat.one_mul] at a b
    exact ⟨a, b⟩
theorem sum_just {r : UInt64} {z : Int} {n : Bool} {j : Int} (hz : z = 0 → r = zero n) (hnz : z ≠ 0 → Right r (decide (z < 0)) z.natAbs 1) (hB : 52 ≤ B ∧ B ≤ 1200) (h : (z : Rat) * KI = j * E B) (hj : j.natAbs < 2 ^ 53) :
    Fn r ∧ v r = (z : Rat) * KI := by
  by_cases h0 : z = 0
  · rw [hz h0, h0]
    obtain ⟨a, b⟩ := v_zero n
    refine ⟨a, ?_⟩
    rw [b]; simp
  · have hK := KI_pos
    have e : z = j * (2 ^ B : Nat) := by
      have : (z : Rat) = ((j * (2 ^ B : Nat) : Int) : Rat) := by
        rw [Rat.intCast_mul, Rat.intCast_natCast]
        unfold E at h
        have h' : (z : Rat) * KI = (j * (2 ^ B : Nat) : Rat) * KI := by grind
        have q := congrArg (· * KI⁻¹) h'
        simp only [Rat.mul_assoc, Rat.mul_inv_cancel _ (Rat.ne_of_gt hK), Rat.mul_one] at q
        exact q
      exact_mod_cast this
    have hn : z.natAbs = 1 * (j.natAbs * 2 ^ B) := by rw [e, Int.natAbs_mul, Int.natAbs_natCast, Nat.one_mul]
    obtain ⟨a, b⟩ := right_just (B := B) (hnz h0) hB Nat.one_pos hj hn
    refine ⟨a, ?_⟩
    rw [b, h, ← sg_abs j]
    have : decide (z < 0) = decide (j < 0) := by
      apply decide_eq_decide.mpr
      have hp : (0 : Int) < ((2 ^ B : Nat) : Int) := by exact_mod_cast Nat.two_pow_pos B
      rw [e]
      generalize ((2 ^ B : Nat) : Int) = G at *
      constructor
      · intro q
        by_cases hj : j < 0
        · exact hj
        · have := Int.mul_nonneg (show 0 ≤ j by omega) (Int.le_of_lt hp); omega
      · intro q; exact Int.mul_neg_of_neg_of_pos q hp
    rw [this]
theorem add_err (fx : Fn x) (fy : Fn y) (B : Nat) (hB : 52 ≤ B ∧ B ≤ 1200) (h1 : v x + v y < 2 ^ 53 * E B) (h2 : -(2 ^ 53 * E B) < v x + v y) :
    Fn (add x y) ∧ v (add x y) ≤ v x + v y + E B ∧ v x + v y - E B ≤ v (add x y) := by
  obtain ⟨a, m, e, hx⟩ := fn_dec fx
  obtain ⟨b, k, f, hy⟩ := fn_dec fy
  have hr := add_right hx hy
  rw [v_add] at h1 h2 ⊢
  exact sum_err hr.1 hr.2 hB h1 h2
theorem add_just (fx : Fn x) (fy : Fn y) (B : Nat) (j : Int) (hB : 52 ≤ B ∧ B ≤ 1200) (h : v x + v y = j * E B) (hj : j.natAbs < 2 ^ 53) : Fn (add x y) ∧ v (add x y) = v x + v y := by
  obtain ⟨a, m, e, hx⟩ := fn_dec fx
  obtain ⟨b, k, f, hy⟩ := fn_dec fy
  have hr := add_right hx hy
  rw [v_add] at h ⊢
  exact sum_just hr.1 hr.2 hB h hj
theorem sub_err (fx : Fn x) (fy : Fn y) (B : Nat) (hB : 52 ≤ B ∧ B ≤ 1200) (h1 : v x - v y < 2 ^ 53 * E B) (h2 : -(2 ^ 53 * E B) < v x - v y) :
    Fn (sub x y) ∧ v (sub x y) ≤ v x - v y + E B ∧ v x - v y - E B ≤ v (sub x y) := by
  obtain ⟨a, m, e, hx⟩ := fn_dec fx
  obtain ⟨b, k, f, hy⟩ := fn_dec fy
  have hr := sub_right hx hy
  rw [v_sub] at h1 h2 ⊢
  exact sum_err hr.1 hr.2 hB h1 h2
theorem sub_just (fx : Fn x) (fy : Fn y) (B : Nat) (j : Int) (hB : 52 ≤ B ∧ B ≤ 1200) (h : v x - v y = j * E B) (hj : j.natAbs < 2 ^ 53) : Fn (sub x y) ∧ v (sub x y) = v x - v y := by
  obtain ⟨a, m, e, hx⟩ := fn_dec fx
  obtain ⟨b, k, f, hy⟩ := fn_dec fy
  have hr := sub_right hx hy
  rw [v_sub] at h ⊢
  exact sum_just hr.1 hr.2 hB h hj
theorem v_abs {a : Bool} {m : Nat} {e : Int} (hx : decode x = .fin a m e) : v x = sg a * ((val x).natAbs : Rat) * KI := by
  have h1 := val_eq hx
  have h2 := val_natAbs hx
  rw [h2]
  exact v_sgn h1
theorem sg_bne (a b : Bool) : sg (a != b) = sg a * sg b := by cases a <;> cases b <;> decide +kernel
theorem sg_sq (a : Bool) : sg a * sg a = 1 := by cases a <;> decide +kernel
theorem mul_err (fx : Fn x) (fy : Fn y) (B : Nat) (hB : 52 ≤ B ∧ B ≤ 1200) (h1 : v x * v y < 2 ^ 53 * E B) (h2 : -(2 ^ 53 * E B) < v x * v y) :
    Fn (mul x y) ∧ v (mul x y) ≤ v x * v y + E B ∧ v x * v y - E B ≤ v (mul x y) := by
  obtain ⟨a, m, e, hx⟩ := fn_dec fx
  obtain ⟨b, k, f, hy⟩ := fn_dec fy
  have hr := mul_right hx hy
  have hK := KI_pos
  have hKN := KI_mul
  have ex := v_abs hx
  have ey := v_abs hy
  have exy : v x * v y = sg (a != b) * (((val x).natAbs * (val y).natAbs : Nat) : Rat) * KI * KI := by
    rw [ex, ey, sg_bne, Rat.natCast_mul]; grind
  have hW : (val x).natAbs * (val y).natAbs < KN * (2 ^ 53 * 2 ^ B) := by
    have hz : (((val x).natAbs * (val y).natAbs : Nat) : Rat) * KI * KI < 2 ^ 53 * E B := by
      have hs := sg_sq (a != b)
      rw [exy] at h1 h2
      generalize (((val x).natAbs * (val y).natAbs : Nat) : Rat) = W at *
      cases hc : (a != b) <;> rw [hc] at h1 h2 <;> unfold sg at h1 h2 <;> simp only [Bool.false_eq_true, if_false, if_true] at h1 h2 <;> grind
    have e1 : (2 ^ 53 * E B : Rat) = ((KN * (2 ^ 53 * 2 ^ B) : Nat) : Rat) * KI * KI := by
      unfold E
      rw [Rat.natCast_mul, Rat.natCast_mul]
      have : ((2 ^ 53 : Nat) : Rat) = 2 ^ 53 := by decide +kernel
      rw [this]
      generalize ((2 ^ B : Nat) : Rat) = G
      grind
    rw [e1] at hz
    have q := Rat.lt_of_mul_lt_mul_right (Rat.lt_of_mul_lt_mul_right hz (Rat.le_of_lt hK)) (Rat.le_of_lt hK)
    exact_mod_cast q
  have hR := right_err (B := B) (D := KN) hr hB KN_pos hW
  refine ⟨hR.1, ?_⟩
  have p1 := Rat.mul_le_mul_of_nonneg_right hR.2.1 (Rat.le_of_lt hK)
  have p2 := Rat.mul_le_mul_of_nonneg_right hR.2.2 (Rat.le_of_lt hK)
  rw [exy]
  generalize (((val x).natAbs * (val y).natAbs : Nat) : Rat) = W at *
  generalize sg (a != b) = S at *
  generalize v (mul x y) = R at *
  generalize E B = G at *
  have l : R * KN * KI = R := by rw [Rat.mul_assoc, hKN, Rat.mul_one]
  have m1 : (S * W * KI + KN * G) * KI = S * W * KI * KI + G := by grind
  have m2 : (S * W * KI - KN * G) * KI = S * W * KI * KI - G := by grind
  rw [l, m1] at p1
  rw [l, m2] at p2
  exact ⟨p1, p2⟩
theorem div_err (fx : Fn x) (fy : Fn y) (q : Rat) (hq : q * v y = v x) (hy0 : v y ≠ 0) (B : Nat) (hB : 52 ≤ B ∧ B ≤ 1200) (h1 : q < 2 ^ 53 * E B) (h2 : -(2 ^ 53 * E B) < q) :
    Fn (div x y) ∧ v (div x y) ≤ q + E B ∧ q - E B ≤ v (div x y) := by
  obtain ⟨a, m, e, hx⟩ := fn_dec fx
  obtain ⟨b, k, f, hy⟩ := fn_dec fy
  have hk : k ≠ 0 := by
    intro h
    apply hy0
    unfold v
    rw [val_eq hy, h]
    cases b <;> simp [sgn]
  have hD : 0 < (val y).natAbs := by
    rw [val_natAbs hy]
    exact Nat.mul_pos (by omega) (Nat.two_pow_pos _)
  have hr := div_right hx hy hk
  have hK := KI_pos
  have hKN := KI_mul
  have ex := v_abs hx
  have ey := v_abs hy
  have hD' : (0 : Rat) < ((val y).natAbs : Rat) := by exact_mod_cast hD
  -- sg (a != b) * q is |x| / |y|
  have eq1 : sg (a != b) * q * ((val y).natAbs : Rat) = ((val x).natAbs : Rat) := by
    have s1 := sg_sq a
    have s2 := sg_sq b
    rw [sg_bne]
    rw [ex, ey] at hq
    generalize ((val y).natAbs : Rat) = Y at *
    generalize ((val x).natAbs : Rat) = X at *
    have h3 : (sg a * sg b * q * Y) * KI = X * KI := by
      have : sg a * (q * (sg b * Y * KI)) = sg a * (sg a * X * KI) := by rw [hq]
      grind
    have h4 := congrArg (· * KI⁻¹) h3
    simp only [Rat.mul_assoc, Rat.mul_inv_cancel _ (Rat.ne_of_gt hK), Rat.mul_one] at h4
    grind
  have hW : (val x).natAbs * 2 ^ 1074 < (val y).natAbs * (2 ^ 53 * 2 ^ B) := by
    have hz : sg (a != b) * q < 2 ^ 53 * E B := by
      cases hc : (a != b) <;> unfold sg <;> simp only [Bool.false_eq_true, if_false, if_true] <;> grind
    have e1 : (2 ^ 53 * E B : Rat) * KN = ((2 ^ 53 * 2 ^ B : Nat) : Rat) := by
      unfold E
      rw [Rat.natCast_mul]
      have : ((2 ^ 53 : Nat) : Rat) = 2 ^ 53 := by decide +kernel
      rw [this]
      generalize ((2 ^ B : Nat) : Rat) = G
      grind
    have hKN' : (0 : Rat) < (KN : Rat) := by exact_mod_cast KN_pos
    have z1 := Rat.mul_lt_mul_of_pos_right hz hKN'
    rw [e1] at z1
    have z2 := Rat.mul_lt_mul_of_pos_right z1 hD'
    have z3 : (((val x).natAbs * KN : Nat) : Rat) < (((val y).natAbs * (2 ^ 53 * 2 ^ B) : Nat) : Rat) := by
      rw [Rat.natCast_mul, Rat.natCast_mul]
      generalize ((2 ^ 53 * 2 ^ B : Nat) : Rat) = T at *
      have z4 : ((val x).natAbs : Rat) * KN = sg (a != b) * q * KN * ((val y).natAbs : Rat) := by rw [← eq1]; grind
      rw [z4, Rat.mul_comm _ T]
      exact z2
    exact_mod_cast z3
  have hR := right_err (B := B) hr hB hD hW
  refine ⟨hR.1, ?_⟩
  have p1 := hR.2.1
  have p2 := hR.2.2
  have e2 : sg (a != b) * (((val x).natAbs * 2 ^ 1074 : Nat) : Rat) * KI = q * ((val y).natAbs : Rat) := by
    rw [show (2 ^ 1074 : Nat) = KN from rfl, Rat.natCast_mul, ← eq1]
    have s3 := sg_sq (a != b)
    generalize sg (a != b) = S at *
    grind
  rw [e2] at p1 p2
  generalize ((val y).natAbs : Rat) = Y at *
  constructor
  · refine Rat.le_of_mul_le_mul_right (c := Y) ?_ hD'
    grind
  · refine Rat.le_of_mul_le_mul_right (c := Y) ?_ hD'
    grind
end
end Mine
end
section
set_option maxRecDepth 100000
namespace Mine
open PySem PySem.Float64

section
variable {x y : UInt64}
theorem cmp_val (fx : Fn x) (fy : Fn y) : cmp x y = some (compare (val x) (val y)) := by
  obtain ⟨a, m, e, hx⟩ := fn_dec fx
  obtain ⟨b, k, f, hy⟩ := fn_dec fy
  exact cmp_right hx hy
theorem v_lt : v x < v y ↔ val x < val y := by
  unfold v
  rw [Rat.mul_lt_mul_right KI_pos, Rat.intCast_lt_intCast]
theorem v_eq : v x = v y ↔ val x = val y := by
  constructor
  · intro h
    by_cases a : val x < val y
    · have := v_lt.mpr a; rw [h] at this; exact absurd this Rat.lt_irrefl
    · by_cases b : val y < val x
      · have := v_lt.mpr b; rw [h] at this; exact absurd this Rat.lt_irrefl
      · lia
  · intro h; unfold v; rw [h]
theorem cmp_lt_iff (fx : Fn x) (fy : Fn y) : (cmp x y == some Ordering.lt) = true ↔ v x < v y := by
  rw [cmp_val fx fy, v_lt, ← Int.compare_eq_lt]
  cases compare (val x) (val y) <;> decide
theorem cmp_eq_iff (fx : Fn x) (fy : Fn y) : (cmp x y == some Ordering.eq) = true ↔ v x = v y := by
  rw [cmp_val fx fy, v_eq]
  constructor
  · intro h
    rcases Int.lt_trichotomy (val x) (val y) with q | q | q
    · rw [Int.compare_eq_lt.mpr q] at h; exact absurd h (by decide)
    · exact q
    · rw [Int.compare_eq_gt.mpr q] at h; exact absurd h (by decide)
  · intro h; rw [h]; simp
theorem cmp_le_iff (fx : Fn x) (fy : Fn y) : (cmp x y == some Ordering.lt || cmp x y == some Ordering.eq) = true ↔ v x ≤ v y := by
  rw [Bool.or_eq_true_iff, cmp_lt_iff fx fy, cmp_eq_iff fx fy]
  grind
theorem zero_iff (fx : Fn x) : isZero x = true ↔ v x = 0 := by
  obtain ⟨a, m, e, hx⟩ := fn_dec fx
  have hn := val_natAbs hx
  have hz : v x = 0 ↔ val x = 0 := by
    unfold v
    rw [Rat.mul_eq_zero, Rat.intCast_eq_zero_iff]
    have := Rat.ne_of_gt KI_pos
    grind
  rw [hz]
  unfold isZero
  rw [hx]
  have hp : 0 < 2 ^ (e + 1074).toNat := Nat.two_pow_pos _
  cases m with
  | zero => simp only [true_iff]; lia
  | succ k =>
    simp only [Bool.false_eq_true, false_iff]
    intro h
    have := Nat.mul_pos (Nat.succ_pos k) hp
    rw [h, Int.natAbs_zero] at hn
    rw [← hn] at this
    exact Nat.lt_irrefl _ this
end
theorem divI_err {a b : Int} (hb : 0 < b) (q : Rat) (hq : q * b = a) (B : Nat) (hB : 52 ≤ B ∧ B ≤ 1200) (h1 : q < 2 ^ 53 * E B) (h2 : -(2 ^ 53 * E B) < q) :
    Fn (divI a b) ∧ v (divI a b) ≤ q + E B ∧ q - E B ≤ v (divI a b) := by
  have hbn : (b.natAbs : Int) = b := by lia
  have hb0 : decide (b < 0) = false := by simp; lia
  have hbp : 0 < b.natAbs := by lia
  have hK := KI_pos
  have hKN := KI_mul
  have hr : Right (divI a b) (decide (a < 0)) (a.natAbs * KN) b.natAbs := by
    unfold divI
    rw [hb0, Bool.bne_false]
    exact ofFrac_right hbp (by rw [show KN = 2 ^ 1074 from rfl]) hbp
  have hbR : ((b.natAbs : Nat) : Rat) = (b : Rat) := by rw [← Rat.intCast_natCast, hbn]
  have hbR0 : (0 : Rat) < (b : Rat) := Rat.intCast_pos.mpr hb
  have hs := sg_abs a
  have hsq := sg_sq (decide (a < 0))
  have eA : ((a.natAbs * KN : Nat) : Rat) * KI = sg (decide (a < 0)) * q * b := by
    rw [Rat.natCast_mul, Rat.mul_assoc, hKN, Rat.mul_one, Rat.mul_assoc, hq, ← hs, ← Rat.mul_assoc, hsq, Rat.one_mul]
  have hW : a.natAbs * KN < b.natAbs * (2 ^ 53 * 2 ^ B) := by
    have hz : sg (decide (a < 0)) * q < 2 ^ 53 * E B := by
      cases hc : decide (a < 0) <;> unfold sg <;> simp only [Bool.false_eq_true, if_false, if_true] <;> grind
    have z1 := Rat.mul_lt_mul_of_pos_right hz hbR0
    rw [← eA] at z1
    have e1 : (2 ^ 53 * E B : Rat) * b = ((b.natAbs * (2 ^ 53 * 2 ^ B) : Nat) : Rat) * KI := by
      unfold E
      rw [Rat.natCast_mul, Rat.natCast_mul, hbR]
      have : ((2 ^ 53 : Nat) : Rat) = 2 ^ 53 := by decide +kernel
      rw [this]
      generalize ((2 ^ B : Nat) : Rat) = G
      grind
    rw [e1] at z1
    have z2 := Rat.lt_of_mul_lt_mul_right z1 (Rat.le_of_lt hK)
    exact_mod_cast z2
  have hR := right_err (B := B) hr hB hbp hW
  refine ⟨hR.1, ?_⟩
  have p1 := hR.2.1
  have p2 := hR.2.2
  have e2 : sg (decide (a < 0)) * ((a.natAbs * KN : Nat) : Rat) * KI = q * b := by
    rw [Rat.mul_assoc, eA, ← Rat.mul_assoc, ← Rat.mul_assoc, hsq, Rat.one_mul]
  rw [e2, hbR] at p1 p2
  constructor
  · refine Rat.le_of_mul_le_mul_right (c := (b : Rat)) ?_ hbR0
    grind
  · refine Rat.le_of_mul_le_mul_right (c := (b : Rat)) ?_ hbR0
    grind
theorem divI_256 {a : Int} (ha : a.natAbs < 2 ^ 53) : Fn (divI a 256) ∧ v (divI a 256) = (a : Rat) / 256 := by
  have hr : Right (divI a 256) (decide (a < 0)) (a.natAbs * KN) 256 := by
    have hb0 : decide ((256 : Int) < 0) = false := rfl
    unfold divI
    rw [hb0, Bool.bne_false]
    exact ofFrac_right (n := a.natAbs) (d := 256) (W := a.natAbs * KN) (D := 256) (by decide) rfl (by decide)
  have h := right_just (B := 1066) (j := a.natAbs) hr (by lia) (by lia) ha (by
    have : KN = 256 * 2 ^ 1066 := by unfold KN; rw [show (1074 : Nat) = 8 + 1066 from rfl, Nat.pow_add]
    rw [this]; ac_rfl)
  refine ⟨h.1, ?_⟩
  rw [h.2, sg_abs]
  have e : E 1066 = 1 / 256 := by
    have hKN := KI_mul
    unfold E
    have : KN = 256 * 2 ^ 1066 := by unfold KN; rw [show (1074 : Nat) = 8 + 1066 from rfl, Nat.pow_add]
    rw [this, Rat.natCast_mul] at hKN
    have h256 : ((256 : Nat) : Rat) = 256 := rfl
    rw [h256] at hKN
    generalize ((2 ^ 1066 : Nat) : Rat) = G at *
    grind
  rw [e]; grind
theorem E_step (B : Nat) : E (B + 1) = 2 * E B := by
  unfold E
  rw [Nat.pow_succ, Rat.natCast_mul]
  have : ((2 : Nat) : Rat) = 2 := rfl
  grind
end Mine
end
section
set_option maxRecDepth 100000
namespace Mine
open PySem PySem.Float64

theorem v_const {x : UInt64} {m k : Nat} (hd : decode x = .fin false m (-(k : Int))) (hk : k ≤ 1074) : Fn x ∧ v x * ((2 ^ k : Nat) : Rat) = m := by
  refine ⟨fn_of hd, ?_⟩
  have hK := KI_mul
  have e1 : (-(k : Int) + 1074).toNat = 1074 - k := by lia
  have e2 : KN = 2 ^ (1074 - k) * 2 ^ k := by unfold KN; rw [← Nat.pow_add]; congr 1; lia
  rw [e2, Rat.natCast_mul] at hK
  unfold v
  rw [val_eq hd, e1]
  unfold sgn
  simp only [Bool.false_eq_true, if_false]
  rw [Rat.intCast_natCast, Rat.natCast_mul]
  generalize ((2 ^ (1074 - k) : Nat) : Rat) = G at *
  generalize ((2 ^ k : Nat) : Rat) = H at *
  grind
noncomputable abbrev ONE : UInt64 := 4607182418800017408
noncomputable abbrev TWO : UInt64 := 4611686018427387904
noncomputable abbrev FOUR : UInt64 := 4616189618054758400
noncomputable abbrev SIX : UInt64 := 4618441417868443648
noncomputable abbrev HALF : UInt64 := 4602678819172646912
noncomputable abbrev C13 : UInt64 := 4599676419421066581
noncomputable abbrev C16 : UInt64 := 4595172819793696085
noncomputable abbrev C23 : UInt64 := 4604180019048437077
noncomputable abbrev C256 : UInt64 := Float64.ofInt 256
/- the step that the error is counted in: 2 ^ -50 -/
noncomputable abbrev ep : Rat := E 1024
theorem ep_eq : ep * 1125899906842624 = 1 := by
  have hK := KI_mul
  have e2 : KN = 2 ^ 1024 * 1125899906842624 := by unfold KN; rw [show (1125899906842624 : Nat) = 2 ^ 50 from rfl, ← Nat.pow_add]
  rw [e2, Rat.natCast_mul] at hK
  unfold ep E
  have : ((1125899906842624 : Nat) : Rat) = 1125899906842624 := rfl
  rw [this] at hK
  generalize ((2 ^ 1024 : Nat) : Rat) = G at *
  grind
theorem E_64 : E 1030 = 64 * ep := by
  have a := E_step 1024; have b := E_step 1025; have c := E_step 1026; have d := E_step 1027; have e := E_step 1028; have f := E_step 1029
  simp only [Nat.reduceAdd] at a b c d e f
  unfold ep
  grind
theorem ONE_v : Fn ONE ∧ v ONE = 1 := by
  have h := v_const (x := ONE) (m := 4503599627370496) (k := 52) (by with_unfolding_all rfl) (by decide)
  refine ⟨h.1, ?_⟩
  have e : ((2 ^ 52 : Nat) : Rat) = 4503599627370496 := rfl
  have h2 := h.2; rw [e] at h2
  have : ((4503599627370496 : Nat) : Rat) = 4503599627370496 := rfl
  (try rw [this] at h2); grind
theorem TWO_v : Fn TWO ∧ v TWO = 2 := by
  have h := v_const (x := TWO) (m := 4503599627370496) (k := 51) (by with_unfolding_all rfl) (by decide)
  refine ⟨h.1, ?_⟩
  have e : ((2 ^ 51 : Nat) : Rat) = 2251799813685248 := rfl
  have h2 := h.2; rw [e] at h2
  have : ((4503599627370496 : Nat) : Rat) = 4503599627370496 := rfl
  (try rw [this] at h2); grind
theorem FOUR_v : Fn FOUR ∧ v FOUR = 4 := by
  have h := v_const (x := FOUR) (m := 4503599627370496) (k := 50) (by with_unfolding_all rfl) (by decide)
  refine ⟨h.1, ?_⟩
  have e : ((2 ^ 50 : Nat) : Rat) = 1125899906842624 := rfl
  have h2 := h.2; rw [e] at h2
  have : ((4503599627370496 : Nat) : Rat) = 4503599627370496 := rfl
  (try rw [this] at h2); grind
theorem SIX_v : Fn SIX ∧ v SIX = 6 := by
  have h := v_const (x := SIX) (m := 6755399441055744) (k := 50) (by with_unfolding_all rfl) (by decide)
  refine ⟨h.1, ?_⟩
  have e : ((2 ^ 50 : Nat) : Rat) = 1125899906842624 := rfl
  have h2 := h.2; rw [e] at h2
  have : ((6755399441055744 : Nat) : Rat) = 6755399441055744 := rfl
  (try rw [this] at h2); grind
theorem HALF_v : Fn HALF ∧ v HALF = 1 / 2 := by
  have h := v_const (x := HALF) (m := 4503599627370496) (k := 53) (by with_unfolding_all rfl) (by decide)
  refine ⟨h.1, ?_⟩
  have e : ((2 ^ 53 : Nat) : Rat) = 9007199254740992 := rfl
  have h2 := h.2; rw [e] at h2
  have : ((4503599627370496 : Nat) : Rat) = 4503599627370496 := rfl
  (try rw [this] at h2); grind
theorem C256_v : Fn C256 ∧ v C256 = 256 := by
  have h := v_const (x := C256) (m := 4503599627370496) (k := 44) (by rw [show C256 = 4643211215818981376 from by decide +kernel]; with_unfolding_all rfl) (by decide)
  refine ⟨h.1, ?_⟩
  have e : ((2 ^ 44 : Nat) : Rat) = 17592186044416 := rfl
  have h2 := h.2; rw [e] at h2
  have : ((4503599627370496 : Nat) : Rat) = 4503599627370496 := rfl
  (try rw [this] at h2); grind
theorem C13_v : Fn C13 ∧ v C13 ≤ 1 / 3 + ep ∧ 1 / 3 - ep ≤ v C13 := by
  have h := v_const (x := C13) (m := 6004799503160661) (k := 54) (by with_unfolding_all rfl) (by decide)
  have he := ep_eq
  have e : ((2 ^ 54 : Nat) : Rat) = 18014398509481984 := rfl
  have h2 := h.2; rw [e] at h2
  have : ((6004799503160661 : Nat) : Rat) = 6004799503160661 := rfl
  rw [this] at h2
  exact ⟨h.1, by grind, by grind⟩
theorem C16_v : Fn C16 ∧ v C16 ≤ 1 / 6 + ep ∧ 1 / 6 - ep ≤ v C16 := by
  have h := v_const (x := C16) (m := 6004799503160661) (k := 55) (by with_unfolding_all rfl) (by decide)
  have he := ep_eq
  have e : ((2 ^ 55 : Nat) : Rat) = 36028797018963968 := rfl
  have h2 := h.2; rw [e] at h2
  have : ((6004799503160661 : Nat) : Rat) = 6004799503160661 := rfl
  rw [this] at h2
  exact ⟨h.1, by grind, by grind⟩
theorem C23_v : Fn C23 ∧ v C23 ≤ 2 / 3 + ep ∧ 2 / 3 - ep ≤ v C23 := by
  have h := v_const (x := C23) (m := 6004799503160661) (k := 53) (by with_unfolding_all rfl) (by decide)
  have he := ep_eq
  have e : ((2 ^ 53 : Nat) : Rat) = 9007199254740992 := rfl
  have h2 := h.2; rw [e] at h2
  have : ((6004799503160661 : Nat) : Rat) = 6004799503160661 := rfl
  rw [this] at h2
  exact ⟨h.1, by grind, by grind⟩
/- what is small stays on the grid of 2 ^ -50 -/
theorem big_ep : (2 ^ 53 : Rat) * ep = 8 := by
  have := ep_eq
  have e : (2 ^ 53 : Rat) = 9007199254740992 := by decide +kernel
  rw [e]; grind
theorem big_64 : (2 ^ 53 : Rat) * E 1030 = 512 := by
  have := big_ep
  rw [E_64]; grind

theorem fmod_one {x : UInt64} (fx : Fn x) : ∃ n : Int, Fn (fmod x ONE) ∧ v (fmod x ONE) ≤ v x - n + ep ∧ v x - n - ep ≤ v (fmod x ONE) ∧ v (fmod x ONE) ≤ 1 + ep ∧ -1 - ep ≤ v (fmod x ONE) := by
  obtain ⟨a, m, e, hx⟩ := fn_dec fx
  have hge := decode_ge hx
  have hy : decode ONE = .fin false 4503599627370496 (-52) := by with_unfolding_all rfl
  have hK := KI_pos
  have hKN := KI_mul
  have hf : fmod x ONE = ofBin a ((m * 2 ^ (e - min e (-52)).toNat) % (4503599627370496 * 2 ^ (-52 - min e (-52)).toNat)) (min e (-52)) := by
    unfold fmod
    rw [hx, hy]
    rfl
  have hr := ofBin_right (neg := a) (M := (m * 2 ^ (e - min e (-52)).toNat) % (4503599627370496 * 2 ^ (-52 - min e (-52)).toNat)) (g := min e (-52)) (by lia)
  rw [← hf] at hr
  have hP : m * 2 ^ (e - min e (-52)).toNat * 2 ^ (min e (-52) + 1074).toNat = (val x).natAbs := by
    rw [val_natAbs hx, Nat.mul_assoc, ← Nat.pow_add]; congr 2; lia
  have hQ : 4503599627370496 * 2 ^ (-52 - min e (-52)).toNat * 2 ^ (min e (-52) + 1074).toNat = KN := by
    unfold KN
    rw [Nat.mul_assoc, ← Nat.pow_add, show (4503599627370496 : Nat) = 2 ^ 52 from rfl, ← Nat.pow_add]; congr 1; lia
  have hQ0 : 0 < 4503599627370496 * 2 ^ (-52 - min e (-52)).toNat := Nat.mul_pos (by decide) (Nat.two_pow_pos _)
  generalize m * 2 ^ (e - min e (-52)).toNat = P at *
  generalize 4503599627370496 * 2 ^ (-52 - min e (-52)).toNat = Qq at *
  have hG0 : 0 < 2 ^ (min e (-52) + 1074).toNat := Nat.two_pow_pos _
  generalize 2 ^ (min e (-52) + 1074).toNat = G at *
  have hdm := Nat.div_add_mod P Qq
  have hml := Nat.mod_lt P hQ0
  generalize P % Qq = Rm at *
  generalize P / Qq = n at *
  have hval : (val x).natAbs = KN * n + Rm * G := by
    rw [← hP, ← hdm, ← hQ, Nat.add_mul]; ac_rfl
  have hW : Rm * G < KN := by rw [← hQ]; exact Nat.mul_lt_mul_of_pos_right hml hG0
  have hR := right_err (B := 1024) (D := 1) hr (by lia) Nat.one_pos (by
    rw [Nat.one_mul]
    refine Nat.lt_of_lt_of_le hW ?_
    unfold KN
    rw [← Nat.pow_add]
    exact Nat.pow_le_pow_right (by decide) (by decide))
  have hvx := v_abs hx
  rw [hval, Rat.natCast_add, Rat.natCast_mul] at hvx
  have hw1 : ((Rm * G : Nat) : Rat) * KI ≤ 1 := by
    rw [← hKN]
    refine Rat.mul_le_mul_of_nonneg_right ?_ (Rat.le_of_lt hK)
    exact_mod_cast Nat.le_of_lt hW
  have hw0 : 0 ≤ ((Rm * G : Nat) : Rat) * KI := Rat.mul_nonneg (by exact_mod_cast Nat.zero_le _) (Rat.le_of_lt hK)
  have p1 := hR.2.1
  have p2 := hR.2.2
  have one : ((1 : Nat) : Rat) = 1 := rfl
  rw [one] at p1 p2
  have hep : 0 ≤ ep := E_nonneg _
  generalize ((Rm * G : Nat) : Rat) = w at *
  generalize v (fmod x ONE) = R at *
  cases a
  · refine ⟨n, hR.1, ?_⟩
    rw [Rat.intCast_natCast]
    unfold sg at *
    simp only [Bool.false_eq_true, if_false] at *
    have hx2 : v x = n + w * KI := by rw [hvx]; grind
    refine ⟨?_, ?_, ?_, ?_⟩ <;> grind
  · refine ⟨-(n : Int), hR.1, ?_⟩
    rw [Rat.intCast_neg, Rat.intCast_natCast]
    unfold sg at *
    simp only [if_true] at *
    have hx2 : v x = -n - w * KI := by rw [hvx]; grind
    refine ⟨?_, ?_, ?_, ?_⟩ <;> grind
/- a hue taken round the wheel -/
theorem mod_one {x : UInt64} (fx : Fn x) : ∃ n : Int, Fn (divmod x ONE).snd ∧ v (divmod x ONE).snd ≤ v x - n + 2 * ep ∧ v x - n - 2 * ep ≤ v (divmod x ONE).snd ∧ v (divmod x ONE).snd ≤ 1 + 2 * ep ∧ -(2 * ep) ≤ v (divmod x ONE).snd := by
  obtain ⟨n, f, h1, h2, h3, h4⟩ := fmod_one fx
  have hep : 0 ≤ ep := E_nonneg _
  have hbe := big_ep
  have hsm := ep_eq
  have hz := v_zero false
  have hcs : copysign (zero false) ONE = zero false := by decide +kernel
  have hl1 : lt ONE (zero false) = false := by decide +kernel
  by_cases c1 : isZero (fmod x ONE) = true
  · have e : (divmod x ONE).snd = zero false := by
      unfold divmod
      simp only [c1, if_true, hcs]
    rw [e]
    have := (zero_iff f).mp c1
    refine ⟨n, hz.1, ?_⟩
    rw [hz.2]
    refine ⟨?_, ?_, ?_, ?_⟩ <;> grind
  · by_cases c2 : lt (fmod x ONE) (zero false) = true
    · have e : (divmod x ONE).snd = add (fmod x ONE) ONE := by
        unfold divmod
        simp only [c1, c2, hl1, if_false, Bool.false_eq_true, Bool.false_bne, if_true]
      rw [e]
      have hneg : v (fmod x ONE) < 0 := by
        have := (cmp_lt_iff f hz.1).mp c2
        rw [hz.2] at this; exact this
      have ha := add_err f ONE_v.1 1024 (by lia) (by rw [ONE_v.2]; grind) (by rw [ONE_v.2]; grind)
      rw [ONE_v.2] at ha
      refine ⟨n - 1, ha.1, ?_⟩
      rw [Rat.intCast_sub]
      have one : ((1 : Int) : Rat) = 1 := rfl
      rw [one]
      obtain ⟨_, a1, a2⟩ := ha
      refine ⟨?_, ?_, ?_, ?_⟩ <;> grind
    · have e : (divmod x ONE).snd = fmod x ONE := by
        unfold divmod
        simp only [c1, c2, hl1, if_false, Bool.false_eq_true, Bool.false_bne]
      rw [e]
      have hneg : ¬ v (fmod x ONE) < 0 := by
        intro h
        apply c2
        have := (cmp_lt_iff f hz.1).mpr (by rw [hz.2]; exact h)
        exact this
      refine ⟨n, f, ?_, ?_, ?_, ?_⟩ <;> grind
theorem halfEven_near {n d N : Nat} (hd : 0 < d) (h1 : 2 * n < 2 * N * d + d) (h2 : 2 * N * d < 2 * n + d) : halfEven n d = N := by
  have hdm := Nat.div_add_mod n d
  have hml := Nat.mod_lt n hd
  unfold halfEven
  generalize n / d = q at *
  generalize n % d = r at *
  subst hdm
  have hc : d * q = q * d := Nat.mul_comm _ _
  rw [hc] at h1 h2
  simp only
  have hq : N = q ∨ N = q + 1 := by
    rcases Nat.lt_trichotomy N q with h | h | h
    · exfalso
      have := Nat.mul_le_mul_right d (show N + 1 ≤ q by lia)
      rw [Nat.add_mul, Nat.one_mul] at this
      rw [Nat.mul_assoc] at h1
      lia
    · exact .inl h
    · by_cases h' : N = q + 1
      · exact .inr h'
      · exfalso
        have := Nat.mul_le_mul_right d (show q + 2 ≤ N by lia)
        rw [Nat.add_mul] at this
        rw [Nat.mul_assoc] at h2
        lia
  rcases hq with rfl | rfl
  · rw [if_neg]
    rw [Nat.mul_assoc] at h1
    simp only [Bool.or_eq_true, decide_eq_true_eq, Bool.and_eq_true, beq_iff_eq]
    lia
  · rw [if_pos]
    rw [Nat.mul_assoc, Nat.add_mul, Nat.one_mul] at h2
    simp only [Bool.or_eq_true, decide_eq_true_eq, Bool.and_eq_true, beq_iff_eq]
    lia
noncomputable abbrev toI (x : UInt64) : Int := PySem.Flt.toInt Float64.nearestOf x
theorem round_near {x : UInt64} (fx : Fn x) (N : Nat) (h1 : v x < N + 1 / 2) (h2 : (N : Rat) - 1 / 2 < v x) : toI x = N := by
  obtain ⟨a, m, e, hx⟩ := fn_dec fx
  have hge := decode_ge hx
  have hK := KI_pos
  have hKN := KI_mul
  unfold toI
  rw [PySem.Flt.toInt_fin hx]
  unfold nearestOf
  have hs := shift_one m e 1074 (by lia)
  have hd : 0 < (shift m 1 e).2 := shift_pos _ _ _ (by decide)
  have hv := v_abs hx
  rw [val_natAbs hx] at hv
  generalize hp : shift m 1 e = p at *
  obtain ⟨n, d⟩ := p
  simp only at *
  rw [show (2 ^ 1074 : Nat) = KN from rfl] at hs
  have hs' : (n : Rat) * KN = ((m * 2 ^ (e + ((1074 : Nat) : Int)).toNat : Nat) : Rat) * d := by exact_mod_cast hs
  have e3 : (e + ((1074 : Nat) : Int)) = e + 1074 := rfl
  rw [e3] at hs'
  generalize ((m * 2 ^ (e + 1074).toNat : Nat) : Rat) = A at *
  have hdR : (0 : Rat) < (d : Rat) := by exact_mod_cast hd
  have hAd : A * KI * d = n := by
    have : A * KI * d = (A * d) * KI := by grind
    rw [this, ← hs', Rat.mul_assoc, hKN, Rat.mul_one]
  have n0 : (0 : Rat) ≤ (n : Rat) := by exact_mod_cast Nat.zero_le _
  have N0 : (0 : Rat) ≤ (N : Rat) := by exact_mod_cast Nat.zero_le _
  cases a
  · unfold sg at hv
    simp only [Bool.false_eq_true, if_false] at hv
    have hvd : v x * d = n := by rw [hv, Rat.one_mul]; exact hAd
    have z1 := Rat.mul_lt_mul_of_pos_right h1 hdR
    have z2 := Rat.mul_lt_mul_of_pos_right h2 hdR
    rw [hvd] at z1 z2
    have k1 : ((2 * n : Nat) : Rat) < ((2 * N * d + d : Nat) : Rat) := by
      rw [Rat.natCast_mul, Rat.natCast_add, Rat.natCast_mul, Rat.natCast_mul]
      have : ((2 : Nat) : Rat) = 2 := rfl
      grind
    have k2 : ((2 * N * d : Nat) : Rat) < ((2 * n + d : Nat) : Rat) := by
      rw [Rat.natCast_add, Rat.natCast_mul, Rat.natCast_mul, Rat.natCast_mul]
      have : ((2 : Nat) : Rat) = 2 := rfl
      grind
    rw [halfEven_near hd (by exact_mod_cast k1) (by exact_mod_cast k2)]
    unfold sgn; simp
  · unfold sg at hv
    simp only [if_true] at hv
    have hvd : v x * d = -n := by rw [hv]; grind
    have z2 := Rat.mul_lt_mul_of_pos_right h2 hdR
    rw [hvd] at z2
    have hN : N = 0 := by
      by_cases h : N = 0
      · exact h
      · exfalso
        have hN1 : (1 : Rat) ≤ (N : Rat) := by exact_mod_cast (show 1 ≤ N by lia)
        have := Rat.mul_le_mul_of_nonneg_right hN1 (Rat.le_of_lt hdR)
        grind
    subst hN
    have k1 : ((2 * n : Nat) : Rat) < ((2 * 0 * d + d : Nat) : Rat) := by
      rw [Rat.natCast_mul, Rat.natCast_add]
      have : ((2 : Nat) : Rat) = 2 := rfl
      have z : ((0 : Nat) : Rat) = 0 := rfl
      have : ((2 * 0 * d : Nat) : Rat) = 0 := by simp
      grind
    rw [halfEven_near hd (by exact_mod_cast k1) (by lia)]
    rfl
end Mine
end
section
set_option maxRecDepth 100000
namespace Mine
open PySem PySem.Float64

theorem sg_pos {n : Rat} {s t : Bool} (hn : 0 ≤ n) (h : 0 ≤ sg s * (sg t * n)) : sg s * (sg t * n) = n := by
  cases s <;> cases t <;> simp only [sg, Bool.false_eq_true, if_false, if_true] at * <;> grind
theorem max3_1 {i j k : Int} (h1 : i < j) (h2 : j < k) : max i (max j k) = k := by simp only [Int.max_def]; split <;> split <;> lia
theorem max3_2 {i j k : Int} (h1 : i < j) (h2 : ¬ j < k) : max i (max j k) = j := by simp only [Int.max_def]; split <;> split <;> lia
theorem max3_3 {i j k : Int} (h1 : ¬ i < j) (h2 : i < k) : max i (max j k) = k := by simp only [Int.max_def]; split <;> split <;> lia
theorem max3_4 {i j k : Int} (h1 : ¬ i < j) (h2 : ¬ i < k) : max i (max j k) = i := by simp only [Int.max_def]; split <;> split <;> lia
theorem min3_1 {i j k : Int} (h1 : j < i) (h2 : k < j) : min i (min j k) = k := by simp only [Int.min_def]; split <;> split <;> lia
theorem min3_2 {i j k : Int} (h1 : j < i) (h2 : ¬ k < j) : min i (min j k) = j := by simp only [Int.min_def]; split <;> split <;> lia
theorem min3_3 {i j k : Int} (h1 : ¬ j < i) (h2 : k < i) : min i (min j k) = k := by simp only [Int.min_def]; split <;> split <;> lia
theorem min3_4 {i j k : Int} (h1 : ¬ j < i) (h2 : ¬ k < i) : min i (min j k) = i := by simp only [Int.min_def]; split <;> split <;> lia
theorem div_just {x y : UInt64} (fx : Fn x) (fy : Fn y) (q : Rat) (hq : q * v y = v x) (hy0 : v y ≠ 0) (B : Nat) (j : Int) (hB : 52 ≤ B ∧ B ≤ 1200) (hj : q = j * E B) (hj2 : j.natAbs < 2 ^ 53) :
    Fn (div x y) ∧ v (div x y) = q := by
  obtain ⟨a, m, e, hx⟩ := fn_dec fx
  obtain ⟨b, k, f, hy⟩ := fn_dec fy
  have hk : k ≠ 0 := by
    intro h
    apply hy0
    unfold v
    rw [val_eq hy, h]
    cases b <;> simp [sgn]
  have hD : 0 < (val y).natAbs := by
    rw [val_natAbs hy]
    exact Nat.mul_pos (by lia) (Nat.two_pow_pos _)
  have hr := div_right hx hy hk
  have hK := KI_pos
  have hKN := KI_mul
  have ex := v_abs hx
  have ey := v_abs hy
  have hD' : (0 : Rat) < ((val y).natAbs : Rat) := by exact_mod_cast hD
  have eq1 : sg (a != b) * q * ((val y).natAbs : Rat) = ((val x).natAbs : Rat) := by
    have s1 := sg_sq a
    have s2 := sg_sq b
    rw [sg_bne]
    rw [ex, ey] at hq
    generalize ((val y).natAbs : Rat) = Y at *
    generalize ((val x).natAbs : Rat) = X at *
    have h3 : (sg a * sg b * q * Y) * KI = X * KI := by
      have : sg a * (q * (sg b * Y * KI)) = sg a * (sg a * X * KI) := by rw [hq]
      grind
    have h4 := congrArg (· * KI⁻¹) h3
    simp only [Rat.mul_assoc, Rat.mul_inv_cancel _ (Rat.ne_of_gt hK), Rat.mul_one] at h4
    grind
  have hE0 : 0 < E B := Rat.mul_pos (by exact_mod_cast Nat.two_pow_pos B) hK
  have hX0 : (0 : Rat) ≤ ((val x).natAbs : Rat) := by exact_mod_cast Nat.zero_le _
  have sj : sg (a != b) * (j : Rat) = (j.natAbs : Rat) := by
    have h0 : 0 ≤ sg (a != b) * (j : Rat) := by
      have h1 : 0 ≤ sg (a != b) * (j : Rat) * (E B * ((val y).natAbs : Rat)) := by
        rw [hj] at eq1
        have : sg (a != b) * (j : Rat) * (E B * ((val y).natAbs : Rat)) = ((val x).natAbs : Rat) := by rw [← eq1]; grind
        rw [this]; exact hX0
      have hp := Rat.mul_pos hE0 hD'
      refine Rat.le_of_mul_le_mul_right (c := E B * ((val y).natAbs : Rat)) ?_ hp
      rw [Rat.zero_mul]; exact h1
    rw [← sg_abs j] at h0 ⊢
    have hn : (0 : Rat) ≤ (j.natAbs : Rat) := by exact_mod_cast Nat.zero_le _
    exact sg_pos hn h0
  have hW : (val x).natAbs * 2 ^ 1074 = (val y).natAbs * (j.natAbs * 2 ^ B) := by
    have z : (((val x).natAbs * KN : Nat) : Rat) = (((val y).natAbs * (j.natAbs * 2 ^ B) : Nat) : Rat) := by
      rw [Rat.natCast_mul, Rat.natCast_mul, Rat.natCast_mul, ← eq1, hj, ← sj]
      unfold E
      generalize ((2 ^ B : Nat) : Rat) = G at *
      generalize ((val y).natAbs : Rat) = Y at *
      have : sg (a != b) * ((j : Rat) * (G * KI)) * Y * (KN : Rat) = sg (a != b) * j * G * Y * ((KN : Rat) * KI) := by grind
      rw [this, hKN]; grind
    exact_mod_cast z
  have hR := right_just (B := B) (j := j.natAbs) hr hB hD hj2 hW
  refine ⟨hR.1, ?_⟩
  rw [hR.2, hj, ← sj]
  have s3 := sg_sq (a != b)
  generalize sg (a != b) = S at *
  grind
theorem E_1066 : E 1066 = 1 / 256 := by
  have hKN := KI_mul
  unfold E
  have : KN = 256 * 2 ^ 1066 := by unfold KN; rw [show (1074 : Nat) = 8 + 1066 from rfl, Nat.pow_add]
  rw [this, Rat.natCast_mul] at hKN
  have h256 : ((256 : Nat) : Rat) = 256 := rfl
  rw [h256] at hKN
  generalize ((2 ^ 1066 : Nat) : Rat) = G at *
  grind
theorem E_1065 : E 1065 = 1 / 512 := by
  have a := E_step 1065
  simp only [Nat.reduceAdd] at a
  rw [E_1066] at a; grind
/- near a number -/
noncomputable def Ap (x : UInt64) (p e : Rat) : Prop := Fn x ∧ v x ≤ p + e ∧ p - e ≤ v x
/- an exact part of 256 -/
noncomputable def Pt (x : UInt64) (k : Int) : Prop := Fn x ∧ v x = (k : Rat) / 256
section
variable {x y z : UInt64} {p q a b : Rat} {i j k : Int}
theorem Pt.ap (h : Pt x k) : Ap x ((k : Rat) / 256) 0 := ⟨h.1, by rw [h.2]; grind, by rw [h.2]; grind⟩
theorem Ap.mono (h : Ap x p a) (hp : p = q) (hab : a ≤ b) : Ap x q b := by obtain ⟨f, h1, h2⟩ := h; subst hp; exact ⟨f, by grind, by grind⟩
theorem add_ap (hx : Ap x p a) (hy : Ap y q b) (h1 : p + q + a + b < 8) (h2 : -8 < p + q - a - b) : Ap (Float64.add x y) (p + q) (a + b + ep) := by
  have hb := big_ep
  obtain ⟨fx, x1, x2⟩ := hx
  obtain ⟨fy, y1, y2⟩ := hy
  obtain ⟨f, a1, a2⟩ := add_err fx fy 1024 (by lia) (by rw [hb]; grind) (by rw [hb]; grind)
  exact ⟨f, by grind, by grind⟩
theorem sub_ap (hx : Ap x p a) (hy : Ap y q b) (h1 : p - q + a + b < 8) (h2 : -8 < p - q - a - b) : Ap (Float64.sub x y) (p - q) (a + b + ep) := by
  have hb := big_ep
  obtain ⟨fx, x1, x2⟩ := hx
  obtain ⟨fy, y1, y2⟩ := hy
  obtain ⟨f, a1, a2⟩ := sub_err fx fy 1024 (by lia) (by rw [hb]; grind) (by rw [hb]; grind)
  exact ⟨f, by grind, by grind⟩
/- |s| ≤ a, |t| ≤ b: |s t| ≤ a b -/
theorem abs_mul {s t a b : Rat} (h1 : s ≤ a) (h2 : -a ≤ s) (h3 : t ≤ b) (h4 : -b ≤ t) : s * t ≤ a * b ∧ -(a * b) ≤ s * t := by
  have e1 := Rat.mul_nonneg (show 0 ≤ a - s by grind) (show 0 ≤ b - t by grind)
  have e2 := Rat.mul_nonneg (show 0 ≤ a - s by grind) (show 0 ≤ b + t by grind)
  have e3 := Rat.mul_nonneg (show 0 ≤ a + s by grind) (show 0 ≤ b - t by grind)
  have e4 := Rat.mul_nonneg (show 0 ≤ a + s by grind) (show 0 ≤ b + t by grind)
  constructor <;> grind
theorem mul_ap (hx : Ap x p a) (hy : Ap y q b) (X Y : Rat) (hX : p ≤ X ∧ -X ≤ p) (hY : q + b ≤ Y ∧ -Y ≤ q - b) (hlt : X * Y + a * Y < 8) : Ap (Float64.mul x y) (p * q) (a * Y + X * b + ep) := by
  have hb := big_ep
  obtain ⟨fx, x1, x2⟩ := hx
  obtain ⟨fy, y1, y2⟩ := hy
  have m1 := abs_mul (s := v x - p) (t := v y) (a := a) (b := Y) (by grind) (by grind) (by grind) (by grind)
  have m2 := abs_mul (s := p) (t := v y - q) (a := X) (b := b) hX.1 hX.2 (by grind) (by grind)
  have m3 := abs_mul (s := p) (t := v y) (a := X) (b := Y) hX.1 hX.2 (by grind) (by grind)
  have e1 : v x * v y = (v x - p) * v y + p * v y := by grind
  have e2 : p * (v y - q) = p * v y - p * q := by grind
  rw [e2] at m2
  generalize (v x - p) * v y = s at *
  generalize p * v y = t at *
  obtain ⟨f, a1, a2⟩ := mul_err fx fy 1024 (by lia) (by rw [hb, e1]; grind) (by rw [hb, e1]; grind)
  rw [e1] at a1 a2
  exact ⟨f, by grind, by grind⟩
theorem div_ap {d : Rat} (hx : Ap x p a) (hd : Fn y ∧ v y = d) (hd1 : 1 ≤ d) (hp : q * d = p) (h1 : q + a < 8) (h2 : -8 < q - a) : Ap (Float64.div x y) q (a + ep) := by
  have hb := big_ep
  obtain ⟨fx, x1, x2⟩ := hx
  obtain ⟨fy, hv⟩ := hd
  have hd0 : (0 : Rat) < d := by grind
  have hw : v x / d * d = v x := Rat.div_mul_cancel (Rat.ne_of_gt hd0)
  have ha : 0 ≤ a := by grind
  have had := Rat.mul_nonneg ha (show 0 ≤ d - 1 by grind)
  have u1 : v x / d ≤ q + a := by
    refine Rat.le_of_mul_le_mul_right (c := d) ?_ hd0
    rw [hw]; grind
  have u2 : q - a ≤ v x / d := by
    refine Rat.le_of_mul_le_mul_right (c := d) ?_ hd0
    rw [hw]; grind
  obtain ⟨f, a1, a2⟩ := div_err fx fy (v x / d) (by rw [hv]; exact hw) (by rw [hv]; exact Rat.ne_of_gt hd0) 1024 (by lia) (by rw [hb]; grind) (by rw [hb]; grind)
  exact ⟨f, by grind, by grind⟩
/- a quotient of two parts -/
theorem div_pt (hx : Pt x i) (hy : Pt y j) (hj : 0 < j) (hq : q * j = i) (h1 : q < 8) (h2 : -8 < q) : Ap (Float64.div x y) q ep := by
  have hb := big_ep
  have hj' : (0 : Rat) < (j : Rat) := Rat.intCast_pos.mpr hj
  obtain ⟨f, a1, a2⟩ := div_err hx.1 hy.1 q (by rw [hx.2, hy.2, ← hq]; grind) (by rw [hy.2]; grind) 1024 (by lia) (by rw [hb]; grind) (by rw [hb]; grind)
  exact ⟨f, by grind, by grind⟩
theorem add_pt (hx : Pt x i) (hy : Pt y j) (hb : (i + j).natAbs < 2 ^ 53) : Pt (Float64.add x y) (i + j) := by
  have h := add_just hx.1 hy.1 1066 (i + j) (by lia) (by rw [hx.2, hy.2, E_1066, Rat.intCast_add]; grind) hb
  refine ⟨h.1, ?_⟩
  rw [h.2, hx.2, hy.2, Rat.intCast_add]; grind
theorem sub_pt (hx : Pt x i) (hy : Pt y j) (hb : (i - j).natAbs < 2 ^ 53) : Pt (Float64.sub x y) (i - j) := by
  have h := sub_just hx.1 hy.1 1066 (i - j) (by lia) (by rw [hx.2, hy.2, E_1066, Rat.intCast_sub]; grind) hb
  refine ⟨h.1, ?_⟩
  rw [h.2, hx.2, hy.2, Rat.intCast_sub]; grind
theorem lt_pt (hx : Pt x i) (hy : Pt y j) : ltF x y = true ↔ i < j := by
  unfold ltF
  rw [cmp_lt_iff hx.1 hy.1, hx.2, hy.2, ← Rat.intCast_lt_intCast]
  constructor <;> intro h <;> grind
theorem eq_pt (hx : Pt x i) (hy : Pt y j) : eqF x y = true ↔ i = j := by
  unfold eqF
  rw [cmp_eq_iff hx.1 hy.1, hx.2, hy.2, ← Rat.intCast_inj]
  constructor <;> intro h <;> grind
theorem max_pt (hx : Pt x i) (hy : Pt y j) (hz : Pt z k) : Pt (max3F x y z) (max i (max j k)) := by
  have a := lt_pt hx hy
  have b := lt_pt hy hz
  have c := lt_pt hx hz
  unfold max3F
  by_cases h1 : ltF x y = true
  · rw [if_pos h1]
    by_cases h2 : ltF y z = true
    · rw [if_pos h2, max3_1 (a.mp h1) (b.mp h2)]; exact hz
    · rw [if_neg h2, max3_2 (a.mp h1) (fun q => h2 (b.mpr q))]; exact hy
  · rw [if_neg h1]
    by_cases h2 : ltF x z = true
    · rw [if_pos h2, max3_3 (fun q => h1 (a.mpr q)) (c.mp h2)]; exact hz
    · rw [if_neg h2, max3_4 (fun q => h1 (a.mpr q)) (fun q => h2 (c.mpr q))]; exact hx
theorem min_pt (hx : Pt x i) (hy : Pt y j) (hz : Pt z k) : Pt (min3F x y z) (min i (min j k)) := by
  have a := lt_pt hy hx
  have b := lt_pt hz hy
  have c := lt_pt hz hx
  unfold min3F
  by_cases h1 : ltF y x = true
  · rw [if_pos h1]
    by_cases h2 : ltF z y = true
    · rw [if_pos h2, min3_1 (a.mp h1) (b.mp h2)]; exact hz
    · rw [if_neg h2, min3_2 (a.mp h1) (fun q => h2 (b.mpr q))]; exact hy
  · rw [if_neg h1]
    by_cases h2 : ltF z x = true
    · rw [if_pos h2, min3_3 (fun q => h1 (a.mpr q)) (c.mp h2)]; exact hz
    · rw [if_neg h2, min3_4 (fun q => h1 (a.mpr q)) (fun q => h2 (c.mpr q))]; exact hx
theorem divI_pt {n : Int} (h : n.natAbs < 2 ^ 53) : Pt (divI n 256) n := divI_256 h
end
end Mine
end
section
set_option maxRecDepth 100000
namespace Mine
open PySem PySem.Float64

/- where a colour stands on the wheel, in sixths of its spread -/
noncomputable def hueI (r g b : Int) : Int :=
  if r = max r (max g b) then g - b
  else if g = max r (max g b) then 2 * (max r (max g b) - min r (min g b)) + b - r
  else 4 * (max r (max g b) - min r (min g b)) + r - g
section
variable {R G B : UInt64} {r g b : Int}
noncomputable abbrev In255 (r g b : Int) : Prop := 0 ≤ r ∧ r ≤ 255 ∧ 0 ≤ g ∧ g ≤ 255 ∧ 0 ≤ b ∧ b ≤ 255
theorem max_is (r g b : Int) : r ≤ max r (max g b) ∧ g ≤ max r (max g b) ∧ b ≤ max r (max g b) ∧ (r = max r (max g b) ∨ g = max r (max g b) ∨ b = max r (max g b)) := by
  refine ⟨Int.le_max_left .., Int.le_trans (Int.le_max_left ..) (Int.le_max_right ..), Int.le_trans (Int.le_max_right ..) (Int.le_max_right ..), ?_⟩
  rcases Int.le_total r (max g b) with h | h
  · rw [Int.max_eq_right h]
    rcases Int.le_total g b with k | k
    · rw [Int.max_eq_right k]; exact .inr (.inr rfl)
    · rw [Int.max_eq_left k]; exact .inr (.inl rfl)
  · rw [Int.max_eq_left h]; exact .inl rfl
theorem min_is3 (r g b : Int) : min r (min g b) ≤ r ∧ min r (min g b) ≤ g ∧ min r (min g b) ≤ b ∧ (r = min r (min g b) ∨ g = min r (min g b) ∨ b = min r (min g b)) := by
  refine ⟨Int.min_le_left .., Int.le_trans (Int.min_le_right ..) (Int.min_le_left ..), Int.le_trans (Int.min_le_right ..) (Int.min_le_right ..), ?_⟩
  rcases Int.le_total r (min g b) with h | h
  · rw [Int.min_eq_left h]; exact .inl rfl
  · rw [Int.min_eq_right h]
    rcases Int.le_total g b with k | k
    · rw [Int.min_eq_left k]; exact .inr (.inl rfl)
    · rw [Int.min_eq_right k]; exact .inr (.inr rfl)
theorem mm_cases (r g b : Int) : ∃ M m, max r (max g b) = M ∧ min r (min g b) = m ∧ r ≤ M ∧ g ≤ M ∧ b ≤ M ∧ m ≤ r ∧ m ≤ g ∧ m ≤ b ∧ (r = M ∨ g = M ∨ b = M) ∧ (r = m ∨ g = m ∨ b = m) :=
  have x := max_is r g b
  have y := min_is3 r g b
  ⟨_, _, rfl, rfl, x.1, x.2.1, x.2.2.1, y.1, y.2.1, y.2.2.1, x.2.2.2, y.2.2.2⟩
theorem mm_bd {M m : Int} (h : In255 r g b) (c : r ≤ M ∧ g ≤ M ∧ b ≤ M ∧ m ≤ r ∧ m ≤ g ∧ m ≤ b ∧ (r = M ∨ g = M ∨ b = M) ∧ (r = m ∨ g = m ∨ b = m)) : 0 ≤ m ∧ m ≤ M ∧ M ≤ 255 := by
  obtain ⟨a1, a2, a3, a4, a5, a6, a7, a8⟩ := c
  obtain ⟨h1, h2, h3, h4, h5, h6⟩ := h
  refine ⟨?_, Int.le_trans a4 a1, ?_⟩
  · rcases a8 with rfl | rfl | rfl <;> assumption
  · rcases a7 with rfl | rfl | rfl <;> assumption
theorem rng_pt (hR : Pt R r) (hG : Pt G g) (hB : Pt B b) (h : In255 r g b) : Pt (rngF R G B) (max r (max g b) - min r (min g b)) := by
  obtain ⟨M, m, e1, e2, c⟩ := mm_cases r g b
  have a := max_pt hR hG hB
  have b' := min_pt hR hG hB
  rw [e1] at a ⊢; rw [e2] at b' ⊢
  have bd := mm_bd h c
  clear c h
  exact sub_pt a b' (by omega)
theorem sum_pt (hR : Pt R r) (hG : Pt G g) (hB : Pt B b) (h : In255 r g b) : Pt (Float64.add (max3F R G B) (min3F R G B)) (max r (max g b) + min r (min g b)) := by
  obtain ⟨M, m, e1, e2, c⟩ := mm_cases r g b
  have a := max_pt hR hG hB
  have b' := min_pt hR hG hB
  rw [e1] at a ⊢; rw [e2] at b' ⊢
  have bd := mm_bd h c
  clear c h
  exact add_pt a b' (by omega)
theorem lum_v (hR : Pt R r) (hG : Pt G g) (hB : Pt B b) (h : In255 r g b) : Fn (lumF R G B) ∧ v (lumF R G B) = ((max r (max g b) + min r (min g b) : Int) : Rat) / 512 := by
  have s := sum_pt hR hG hB h
  obtain ⟨M, m, e1, e2, c⟩ := mm_cases r g b
  rw [e1, e2] at s ⊢
  have bd := mm_bd h c
  clear c h
  unfold lumF
  refine div_just s.1 TWO_v.1 _ ?_ (by rw [TWO_v.2]; grind) 1065 (M + m) (by omega) (by rw [E_1065]; grind) (by omega)
  rw [TWO_v.2, s.2]; grind
theorem eq_mm (hR : Pt R r) (hG : Pt G g) (hB : Pt B b) : eqF (min3F R G B) (max3F R G B) = true ↔ min r (min g b) = max r (max g b) := eq_pt (min_pt hR hG hB) (max_pt hR hG hB)
theorem le_half (hR : Pt R r) (hG : Pt G g) (hB : Pt B b) (h : In255 r g b) : leF (lumF R G B) HALF = true ↔ max r (max g b) + min r (min g b) ≤ 256 := by
  have l := lum_v hR hG hB h
  unfold leF
  rw [cmp_le_iff l.1 HALF_v.1, l.2, HALF_v.2]
  rw [← Rat.intCast_le_intCast]
  have : ((256 : Int) : Rat) = 256 := rfl
  rw [this]
  constructor <;> intro h <;> grind
theorem white_pt (hR : Pt R r) (hG : Pt G g) (hB : Pt B b) (h : In255 r g b) : Pt (Float64.sub (Float64.sub TWO (max3F R G B)) (min3F R G B)) (512 - max r (max g b) - min r (min g b)) := by
  obtain ⟨M, m, e1, e2, c⟩ := mm_cases r g b
  have a := max_pt hR hG hB
  have b' := min_pt hR hG hB
  rw [e1] at a ⊢; rw [e2] at b' ⊢
  have bd := mm_bd h c
  clear c h
  have t : Pt TWO 512 := ⟨TWO_v.1, by rw [TWO_v.2]; have : ((512 : Int) : Rat) = 512 := rfl
                                      rw [this]; grind⟩
  exact sub_pt (sub_pt t a (by omega)) b' (by omega)
theorem pt_nz {x : UInt64} {k : Int} (hx : Pt x k) (hk : k ≠ 0) : isZero x = false := by
  cases hc : isZero x with
  | false => rfl
  | true =>
    have := (zero_iff hx.1).mp hc
    rw [hx.2] at this
    have h2 : (k : Rat) = 0 := by grind
    exact absurd (Rat.intCast_eq_zero_iff.mp h2) hk
theorem noz_pt (hR : Pt R r) (hG : Pt G g) (hB : Pt B b) (h : In255 r g b) : NoZ R G B := by
  intro he
  have hne : ¬ (min r (min g b) = max r (max g b)) := fun q => by rw [(eq_mm hR hG hB).mpr q] at he; cases he
  have a := rng_pt hR hG hB h
  have s := sum_pt hR hG hB h
  have w := white_pt hR hG hB h
  obtain ⟨M, m, e1, e2, c⟩ := mm_cases r g b
  rw [e1, e2] at hne a s w
  have bd := mm_bd h c
  clear c h
  exact ⟨pt_nz a (by omega), fun _ => pt_nz s (by omega), fun _ => pt_nz w (by omega)⟩
theorem part_ap {C : UInt64} {c : Int} (hR : Pt R r) (hG : Pt G g) (hB : Pt B b) (h : In255 r g b) (hC : Pt C c) (hc : c = r ∨ c = g ∨ c = b) (hd : min r (min g b) < max r (max g b)) (D q : Rat) (hD : D = ((max r (max g b) - min r (min g b) : Int) : Rat)) (hq : q * D = ((max r (max g b) - c : Int) : Rat)) :
    Ap (partF R G B C) q ep ∧ 0 ≤ q ∧ q ≤ 1 := by
  have a := rng_pt hR hG hB h
  have mx := max_pt hR hG hB
  obtain ⟨M, m, e1, e2, cs⟩ := mm_cases r g b
  rw [e1, e2] at hd hD a
  rw [e1] at mx hq
  have bd := mm_bd h cs
  have hc3 : m ≤ c ∧ c ≤ M := by
    rcases hc with rfl | rfl | rfl
    · exact ⟨cs.2.2.2.1, cs.1⟩
    · exact ⟨cs.2.2.2.2.1, cs.2.1⟩
    · exact ⟨cs.2.2.2.2.2.1, cs.2.2.1⟩
  clear cs hc h
  have s := sub_pt mx hC (by omega)
  have hD0 : 0 < D := by rw [hD]; exact Rat.intCast_pos.mpr (by omega)
  have q0 : 0 ≤ q := by
    refine Rat.le_of_mul_le_mul_right (c := D) ?_ hD0
    rw [hq, Rat.zero_mul]
    exact Rat.intCast_nonneg.mpr (by omega)
  have q1 : q ≤ 1 := by
    refine Rat.le_of_mul_le_mul_right (c := D) ?_ hD0
    rw [hq, Rat.one_mul, hD]
    exact Rat.intCast_le_intCast.mpr (by omega)
  refine ⟨?_, q0, q1⟩
  unfold partF
  exact div_pt s a (by omega) (by rw [← hD]; exact hq) (by grind) (by grind)
theorem raw_ap (hR : Pt R r) (hG : Pt G g) (hB : Pt B b) (h : In255 r g b) (hd : min r (min g b) < max r (max g b)) (D t : Rat) (hD : D = ((max r (max g b) - min r (min g b) : Int) : Rat)) (ht : t * D = (hueI r g b : Rat)) :
    Ap (rawHueF R G B) t (4 * ep) ∧ -1 ≤ t ∧ t ≤ 5 := by
  have hD0 : 0 < D := by rw [hD]; exact Rat.intCast_pos.mpr (by omega)
  have hDne := Rat.ne_of_gt hD0
  have mx := max_pt hR hG hB
  have er := eq_pt hR mx
  have eg := eq_pt hG mx
  have pr := part_ap hR hG hB h hR (.inl rfl) hd D (((max r (max g b) - r : Int) : Rat) / D) hD (Rat.div_mul_cancel hDne)
  have pg := part_ap hR hG hB h hG (.inr (.inl rfl)) hd D (((max r (max g b) - g : Int) : Rat) / D) hD (Rat.div_mul_cancel hDne)
  have pb := part_ap hR hG hB h hB (.inr (.inr rfl)) hd D (((max r (max g b) - b : Int) : Rat) / D) hD (Rat.div_mul_cancel hDne)
  have er' := Rat.div_mul_cancel (a := ((max r (max g b) - r : Int) : Rat)) hDne
  have eg' := Rat.div_mul_cancel (a := ((max r (max g b) - g : Int) : Rat)) hDne
  have eb' := Rat.div_mul_cancel (a := ((max r (max g b) - b : Int) : Rat)) hDne
  generalize ((max r (max g b) - r : Int) : Rat) / D = qr at *
  generalize ((max r (max g b) - g : Int) : Rat) / D = qg at *
  generalize ((max r (max g b) - b : Int) : Rat) / D = qb at *
  obtain ⟨M, m, e1, e2, cs⟩ := mm_cases r g b
  have hep : 0 ≤ ep := E_nonneg _
  have hsm := ep_eq
  unfold rawHueF
  simp only [hueI, e1, e2] at ht
  rw [e1] at er eg er' eg' eb'
  rw [e1, e2] at hD
  simp only [Rat.intCast_sub] at er' eg' eb' hD
  have cancel : ∀ x y : Rat, x * D = y * D → x = y := fun x y e => by
    have := congrArg (· * D⁻¹) e
    simp only [Rat.mul_assoc, Rat.mul_inv_cancel _ hDne, Rat.mul_one] at this
    exact this
  by_cases c1 : r = M
  · rw [if_pos (er.mpr c1)]
    rw [if_pos c1, Rat.intCast_sub] at ht
    have et : t = qb - qg := cancel _ _ (by rw [ht]; grind)
    rw [et]
    exact ⟨(sub_ap pb.1 pg.1 (by grind) (by grind)).mono rfl (by grind), by grind, by grind⟩
  · have n1 : ¬ eqF R (max3F R G B) = true := fun q => c1 (er.mp q)
    rw [if_neg n1]
    rw [if_neg c1] at ht
    have hTWO : Ap TWO 2 0 := ⟨TWO_v.1, by rw [TWO_v.2]; grind, by rw [TWO_v.2]; grind⟩
    have hFOUR : Ap FOUR 4 0 := ⟨FOUR_v.1, by rw [FOUR_v.2]; grind, by rw [FOUR_v.2]; grind⟩
    have two : ((2 : Int) : Rat) = 2 := rfl
    have four : ((4 : Int) : Rat) = 4 := rfl
    by_cases c2 : g = M
    · rw [if_pos (eg.mpr c2)]
      rw [if_pos c2, Rat.intCast_sub, Rat.intCast_add, Rat.intCast_mul, Rat.intCast_sub, two] at ht
      have et : t = 2 + qr - qb := cancel _ _ (by rw [ht]; grind)
      rw [et]
      exact ⟨(sub_ap (add_ap hTWO pr.1 (by grind) (by grind)) pb.1 (by grind) (by grind)).mono rfl (by grind), by grind, by grind⟩
    · have n2 : ¬ eqF G (max3F R G B) = true := fun q => c2 (eg.mp q)
      rw [if_neg n2]
      rw [if_neg c2, Rat.intCast_sub, Rat.intCast_add, Rat.intCast_mul, Rat.intCast_sub, four] at ht
      have et : t = 4 + qg - qr := cancel _ _ (by rw [ht]; grind)
      rw [et]
      exact ⟨(sub_ap (add_ap hFOUR pg.1 (by grind) (by grind)) pr.1 (by grind) (by grind)).mono rfl (by grind), by grind, by grind⟩
/- a hue is told within 4 / 2 ^ 50 -/
theorem hue_ap (hR : Pt R r) (hG : Pt G g) (hB : Pt B b) (h : In255 r g b) (hd : min r (min g b) < max r (max g b)) (D t : Rat) (hD : D = ((max r (max g b) - min r (min g b) : Int) : Rat)) (ht : t * (6 * D) = (hueI r g b : Rat)) :
    ∃ n : Int, Ap (hueF R G B) (t - n) (4 * ep) ∧ v (hueF R G B) ≤ 1 + 2 * ep ∧ -(2 * ep) ≤ v (hueF R G B) := by
  obtain ⟨a, l, u⟩ := raw_ap hR hG hB h hd D (6 * t) hD (by rw [← ht]; grind)
  have hep : 0 ≤ ep := E_nonneg _
  have hsm := ep_eq
  have d6 := div_ap (q := t) a SIX_v (by grind) (by grind) (by grind) (by grind)
  unfold hueF
  have six := div_err a.1 SIX_v.1 (v (rawHueF R G B) / 6) (by rw [SIX_v.2]; exact Rat.div_mul_cancel (by grind)) (by rw [SIX_v.2]; grind) 1024 (by omega) (by rw [big_ep]; obtain ⟨_, q1, q2⟩ := a; grind) (by rw [big_ep]; obtain ⟨_, q1, q2⟩ := a; grind)
  obtain ⟨n, f, m1, m2, m3, m4⟩ := mod_one six.1
  obtain ⟨_, a1, a2⟩ := a
  obtain ⟨_, s1, s2⟩ := six
  refine ⟨n, ⟨f, ?_, ?_⟩, m3, m4⟩
  · have := m1; have := s1; grind
  · have := m2; have := s2; grind
end
end Mine
end
section
set_option maxRecDepth 100000
namespace Mine
open PySem PySem.Float64

theorem ic6 (d : Int) : ((6 * d : Int) : Rat) = 6 * (d : Rat) := by rw [Rat.intCast_mul]; rfl
theorem ic3 (d : Int) : ((3 * d : Int) : Rat) = 3 * (d : Rat) := by rw [Rat.intCast_mul]; rfl
theorem ic4 (d : Int) : ((4 * d : Int) : Rat) = 4 * (d : Rat) := by rw [Rat.intCast_mul]; rfl
section
variable {R G B : UInt64} {r g b : Int}
theorem sat_ap (hR : Pt R r) (hG : Pt G g) (hB : Pt B b) (h : In255 r g b) (hd : min r (min g b) < max r (max g b)) :
    ∃ q : Rat, Ap (satF R G B) q ep ∧ 1 / 512 ≤ q ∧ q ≤ 1 ∧
      (leF (lumF R G B) HALF = true → q * ((max r (max g b) + min r (min g b) : Int) : Rat) = ((max r (max g b) - min r (min g b) : Int) : Rat)) ∧
      (leF (lumF R G B) HALF = false → q * ((512 - max r (max g b) - min r (min g b) : Int) : Rat) = ((max r (max g b) - min r (min g b) : Int) : Rat)) := by
  have a := rng_pt hR hG hB h
  have s := sum_pt hR hG hB h
  have w := white_pt hR hG hB h
  have lh := le_half hR hG hB h
  obtain ⟨M, m, e1, e2, cs⟩ := mm_cases r g b
  rw [e1, e2] at a s w lh ⊢ hd
  have bd := mm_bd h cs
  clear cs h
  have bnd : ∀ (S : Int) (q : Rat), 0 < S → S ≤ 512 → M - m ≤ S → q * (S : Rat) = ((M - m : Int) : Rat) → 1 / 512 ≤ q ∧ q ≤ 1 := by
    intro S q h0 h1 h2 e
    have S0 : (0 : Rat) < (S : Rat) := Rat.intCast_pos.mpr h0
    have S1 : (S : Rat) ≤ 512 := Rat.intCast_le_intCast (b := 512) |>.mpr h1
    have D1 : (1 : Rat) ≤ ((M - m : Int) : Rat) := Rat.intCast_le_intCast (a := 1) |>.mpr (by lia)
    have D2 : ((M - m : Int) : Rat) ≤ (S : Rat) := Rat.intCast_le_intCast.mpr h2
    constructor
    · refine Rat.le_of_mul_le_mul_right (c := (S : Rat)) ?_ S0
      rw [e]; grind
    · refine Rat.le_of_mul_le_mul_right (c := (S : Rat)) ?_ S0
      rw [e]; grind
  unfold satF
  by_cases c : leF (lumF R G B) HALF = true
  · have hS : 0 < M + m := by lia
    have hS' : ((M + m : Int) : Rat) ≠ 0 := Rat.ne_of_gt (Rat.intCast_pos.mpr hS)
    have e := Rat.div_mul_cancel (a := ((M - m : Int) : Rat)) hS'
    obtain ⟨l, u⟩ := bnd _ _ hS (by lia) (by lia) e
    rw [if_pos c]
    exact ⟨_, div_pt a s hS e (by grind) (by grind), l, u, fun _ => e, fun q => by rw [c] at q; cases q⟩
  · have c' : leF (lumF R G B) HALF = false := by simpa using c
    have hS : 0 < 512 - M - m := by lia
    have hS' : ((512 - M - m : Int) : Rat) ≠ 0 := Rat.ne_of_gt (Rat.intCast_pos.mpr hS)
    have e := Rat.div_mul_cancel (a := ((M - m : Int) : Rat)) hS'
    obtain ⟨l, u⟩ := bnd _ _ hS (by lia) (by lia) e
    rw [if_neg c]
    exact ⟨_, div_pt a w hS e (by grind) (by grind), l, u, fun q => absurd q c, fun _ => e⟩
theorem ends_ap (hR : Pt R r) (hG : Pt G g) (hB : Pt B b) (h : In255 r g b) (hd : min r (min g b) < max r (max g b)) :
    Ap (m2F (lumF R G B) (satF R G B)) ((max r (max g b) : Int) / 256) (5 * ep) ∧ Ap (m1F (lumF R G B) (satF R G B)) ((min r (min g b) : Int) / 256) (7 * ep) ∧ eqF (satF R G B) 0 = false := by
  obtain ⟨q, hs, q0, q1, hc1, hc2⟩ := sat_ap hR hG hB h hd
  have l := lum_v hR hG hB h
  have lh := le_half hR hG hB h
  obtain ⟨M, m, e1, e2, cs⟩ := mm_cases r g b
  rw [e1, e2] at hc1 hc2 l lh ⊢
  have bd := mm_bd h cs
  clear cs h
  have hep : 0 ≤ ep := E_nonneg _
  have hsm := ep_eq
  have M1 : (M : Rat) ≤ 255 := Rat.intCast_le_intCast (b := 255) |>.mpr (by omega)
  have M0 : (0 : Rat) ≤ (M : Rat) := Rat.intCast_nonneg.mpr (by omega)
  have m1' : (m : Rat) ≤ 255 := Rat.intCast_le_intCast (b := 255) |>.mpr (by omega)
  have m0 : (0 : Rat) ≤ (m : Rat) := Rat.intCast_nonneg.mpr (by omega)
  have z0 := v_zero false
  have h2 : Ap (m2F (lumF R G B) (satF R G B)) ((M : Rat) / 256) (5 * ep) := by
    rw [Rat.intCast_add] at l
    have hl : Ap (lumF R G B) (((M : Rat) + m) / 512) 0 := ⟨l.1, by rw [l.2]; grind, by rw [l.2]; grind⟩
    unfold m2F
    by_cases c : leF (lumF R G B) HALF = true
    · rw [if_pos c]
      have e := hc1 c
      rw [Rat.intCast_add, Rat.intCast_sub] at e
      have hONE : Ap ONE 1 0 := ⟨ONE_v.1, by rw [ONE_v.2]; grind, by rw [ONE_v.2]; grind⟩
      have s1 := add_ap hONE hs (by grind) (by grind)
      have s2 := mul_ap hl s1 1 3 (by grind) (by grind) (by grind)
      exact s2.mono (by grind) (by grind)
    · have c' : leF (lumF R G B) HALF = false := by simpa using c
      rw [if_neg c]
      have e := hc2 c'
      rw [Rat.intCast_sub, Rat.intCast_sub, Rat.intCast_sub] at e
      have n512 : ((512 : Int) : Rat) = 512 := rfl
      rw [n512] at e
      have s1 := add_ap hl hs (by grind) (by grind)
      have s2 := mul_ap hl hs 1 2 (by grind) (by grind) (by grind)
      have p0 := Rat.mul_nonneg (show 0 ≤ ((M : Rat) + m) / 512 by grind) (show 0 ≤ q by grind)
      have p1 : ((M : Rat) + m) / 512 * q ≤ q := by
        have := Rat.mul_le_mul_of_nonneg_right (show ((M : Rat) + m) / 512 ≤ 1 by grind) (show 0 ≤ q by grind)
        grind
      have s3 := sub_ap s1 s2 (by grind) (by grind)
      exact s3.mono (by grind) (by grind)
  refine ⟨h2, ?_, ?_⟩
  · rw [Rat.intCast_add] at l
    have hl : Ap (lumF R G B) (((M : Rat) + m) / 512) 0 := ⟨l.1, by rw [l.2]; grind, by rw [l.2]; grind⟩
    have hTWO : Ap TWO 2 0 := ⟨TWO_v.1, by rw [TWO_v.2]; grind, by rw [TWO_v.2]; grind⟩
    have s1 := mul_ap hTWO hl 2 1 (by grind) (by grind) (by grind)
    unfold m1F
    have s2 := sub_ap s1 h2 (by grind) (by grind)
    exact s2.mono (by grind) (by grind)
  · unfold eqF
    cases hc : (cmp (satF R G B) 0 == some Ordering.eq) with
    | false => rfl
    | true =>
      have z : (0 : UInt64) = zero false := by decide +kernel
      rw [z] at hc
      have := (cmp_eq_iff hs.1 z0.1).mp hc
      rw [z0.2] at this
      obtain ⟨_, a1, a2⟩ := hs
      exfalso; grind
/- the colour's part at the place U of the wheel of 6 d -/
noncomputable def phi (d U : Int) : Int := if U ≤ d then U else if U ≤ 3 * d then d else if U ≤ 4 * d then 4 * d - U else 0
theorem v_round {m1 m2 x : UInt64} {m d T : Int} (hm : 0 ≤ m) (hd : 0 < d) (hM : m + d ≤ 255) (h1 : Ap m1 ((m : Rat) / 256) (7 * ep)) (h2 : Ap m2 (((m + d : Int) : Rat) / 256) (5 * ep))
    (t : Rat) (ht : t * (6 * d) = (T : Rat)) (n : Int) (hx : Ap x (t - n) (8 * ep)) :
    ∃ U : Int, 0 ≤ U ∧ U ≤ 6 * d ∧ (∃ k : Int, U = T - 6 * (d * k)) ∧ Fn (Float64.mul (vF m1 m2 x) C256) ∧ toI (Float64.mul (vF m1 m2 x) C256) = m + phi d U := by
  have hep : 0 ≤ ep := E_nonneg _
  have hsm := ep_eq
  refine hide fun GG hGG => ?_
  obtain ⟨k, hf, a1, a2, a3, a4⟩ := mod_one hx.1
  have hx1 := hx.2.1
  have hx2 := hx.2.2
  -- u: the place on the wheel
  obtain ⟨u, hu⟩ : ∃ u : Rat, u = t - n - k := ⟨_, rfl⟩
  have b1 : v (divmod x ONE).snd ≤ u + 10 * ep := by grind
  have b2 : u - 10 * ep ≤ v (divmod x ONE).snd := by grind
  have D0 : (0 : Rat) < (d : Rat) := Rat.intCast_pos.mpr hd
  have D1 : (d : Rat) ≤ 255 := Rat.intCast_le_intCast (b := 255) |>.mpr (by lia)
  have m0 : (0 : Rat) ≤ (m : Rat) := Rat.intCast_nonneg.mpr hm
  have M1 : (m : Rat) + d ≤ 255 := by
    have := Rat.intCast_le_intCast (a := m + d) (b := 255) |>.mpr hM
    rw [Rat.intCast_add] at this; exact this
  obtain ⟨U, hU⟩ : ∃ U : Int, U = T - 6 * (d * (n + k)) := ⟨_, rfl⟩
  have eU : u * (6 * d) = (U : Rat) := by
    rw [hU, Rat.intCast_sub, Rat.intCast_mul, Rat.intCast_mul, Rat.intCast_add, ← ht, hu]
    have : ((6 : Int) : Rat) = 6 := rfl
    rw [this]; grind
  -- |e d| small
  have ed : 0 ≤ ep * d := Rat.mul_nonneg hep (Rat.le_of_lt D0)
  have ed2 : ep * d ≤ 255 * ep := by
    have := Rat.mul_le_mul_of_nonneg_left D1 hep
    grind
  have scale : ∀ {p q : Rat}, p ≤ q → p * (6 * d) ≤ q * (6 * d) := fun h => Rat.mul_le_mul_of_nonneg_right h (by grind)
  have up : ∀ {c : Rat} {z : Int}, u ≤ c + 12 * ep → c * (6 * d) = (z : Rat) → U ≤ z := by
    intro c z h e
    have q := scale h
    rw [eU] at q
    have q2 : (U : Rat) < ((z + 1 : Int) : Rat) := by
      rw [Rat.intCast_add, ← e]
      have : ((1 : Int) : Rat) = 1 := rfl
      rw [this]; grind
    have := Rat.intCast_lt_intCast.mp q2
    lia
  have down : ∀ {c : Rat} {z : Int}, c - 12 * ep ≤ u → c * (6 * d) = (z : Rat) → z ≤ U := by
    intro c z h e
    have q := scale h
    rw [eU] at q
    have q2 : (z : Rat) < ((U + 1 : Int) : Rat) := by
      rw [Rat.intCast_add, ← e]
      have : ((1 : Int) : Rat) = 1 := rfl
      rw [this]; grind
    have := Rat.intCast_lt_intCast.mp q2
    lia
  have U0 : 0 ≤ U := down (c := 0) (z := 0) (by grind) (by rw [Rat.zero_mul]; rfl)
  have U6 : U ≤ 6 * d := up (c := 1) (z := 6 * d) (by grind) (by rw [ic6]; grind)
  refine hGG ⟨U, U0, U6, ⟨n + k, hU⟩, ?_⟩
  clear hGG GG
  -- what comes out, near (m + N) / 256, is rounded to m + N
  have fin : ∀ {y : UInt64} (N : Int), 0 ≤ N → N ≤ d → Ap y (((m + N : Int) : Rat) / 256) (300 * ep) → Fn (Float64.mul y C256) ∧ toI (Float64.mul y C256) = m + N := by
    intro y N hN0 hNd hy
    obtain ⟨fy, y1, y2⟩ := hy
    have n0 : (0 : Rat) ≤ ((m + N : Int) : Rat) := Rat.intCast_nonneg.mpr (by lia)
    have n1 : ((m + N : Int) : Rat) ≤ 255 := Rat.intCast_le_intCast (b := 255) |>.mpr (by lia)
    have hm := mul_err fy C256_v.1 1030 (by lia) (by rw [big_64, C256_v.2]; grind) (by rw [big_64, C256_v.2]; grind)
    rw [C256_v.2, E_64] at hm
    obtain ⟨f, p1, p2⟩ := hm
    refine ⟨f, ?_⟩
    have hnat : ((m + N).toNat : Int) = m + N := by lia
    have hc : (((m + N).toNat : Nat) : Rat) = ((m + N : Int) : Rat) := by rw [← Rat.intCast_natCast, hnat]
    rw [round_near f (m + N).toNat (by rw [hc]; grind) (by rw [hc]; grind), hnat]
  -- the spread
  have hdf : Ap (Float64.sub m2 m1) ((d : Rat) / 256) (13 * ep) := by
    have h2' := h2
    rw [Rat.intCast_add] at h2'
    exact (sub_ap h2' h1 (by grind) (by grind)).mono (by grind) (by grind)
  have hH : Ap (divmod x ONE).snd u (10 * ep) := ⟨hf, b1, b2⟩
  have hSIX : Ap SIX 6 0 := ⟨SIX_v.1, by rw [SIX_v.2]; grind, by rw [SIX_v.2]; grind⟩
  have du : (d : Rat) / 256 * u * 6 = (U : Rat) / 256 := by rw [← eU]; grind
  have u0 : -(12 * ep) ≤ u := by grind
  have u1 : u ≤ 1 + 12 * ep := by grind
  unfold vF
  simp only []
  obtain ⟨f16, s1, s2⟩ := C16_v
  obtain ⟨f23, s3, s4⟩ := C23_v
  by_cases c1 : (cmp (divmod x ONE).snd C16 == some Ordering.lt) = true
  · rw [if_pos c1]
    have hlt := (cmp_lt_iff hf f16).mp c1
    have Ud : U ≤ d := up (c := 1 / 6) (z := d) (by grind) (by grind)
    have ph : phi d U = U := by unfold phi; rw [if_pos Ud]
    rw [ph]
    refine fin U U0 Ud ?_
    have k1 := mul_ap hdf hH 1 (3 / 2) (by grind) (by grind) (by grind)
    have k2 := mul_ap k1 hSIX 1 6 (by grind) (by grind) (by grind)
    rw [du] at k2
    have k3 := add_ap h1 k2 (by grind) (by grind)
    exact k3.mono (by rw [Rat.intCast_add]; grind) (by grind)
  · rw [if_neg c1]
    have hge : ¬ v (divmod x ONE).snd < v C16 := fun q => c1 ((cmp_lt_iff hf f16).mpr q)
    have Ud : d ≤ U := down (c := 1 / 6) (z := d) (by grind) (by grind)
    by_cases c2 : (cmp (divmod x ONE).snd HALF == some Ordering.lt) = true
    · rw [if_pos c2]
      have hlt := (cmp_lt_iff hf HALF_v.1).mp c2
      rw [HALF_v.2] at hlt
      have U3 : U ≤ 3 * d := up (c := 1 / 2) (z := 3 * d) (by grind) (by rw [ic3]; grind)
      have ph : phi d U = d := by unfold phi; split <;> first | lia | (rw [if_pos U3])
      rw [ph]
      exact fin d (by lia) (by lia) (h2.mono rfl (by grind))
    · rw [if_neg c2]
      have hge2 : ¬ v (divmod x ONE).snd < 1 / 2 := fun q => c2 ((cmp_lt_iff hf HALF_v.1).mpr (by rw [HALF_v.2]; exact q))
      have U3 : 3 * d ≤ U := down (c := 1 / 2) (z := 3 * d) (by grind) (by rw [ic3]; grind)
      by_cases c3 : (cmp (divmod x ONE).snd C23 == some Ordering.lt) = true
      · rw [if_pos c3]
        have hlt := (cmp_lt_iff hf f23).mp c3
        have U4 : U ≤ 4 * d := up (c := 2 / 3) (z := 4 * d) (by grind) (by rw [ic4]; grind)
        have ph : phi d U = 4 * d - U := by unfold phi; repeat' split
                                            all_goals lia
        rw [ph]
        refine fin (4 * d - U) (by lia) (by lia) ?_
        have h23 : Ap C23 (2 / 3) ep := ⟨f23, s3, s4⟩
        have k0 := sub_ap h23 hH (by grind) (by grind)
        have k1 := mul_ap hdf k0 1 (3 / 2) (by grind) (by grind) (by grind)
        have l1 : -(1 / 2) ≤ 2 / 3 - u := by grind
        have l2 : 2 / 3 - u ≤ 1 := by grind
        have lm := abs_mul (s := (d : Rat) / 256) (t := 2 / 3 - u) (a := 1) (b := 1) (by grind) (by grind) l2 (by grind)
        rw [Rat.mul_one] at lm
        have k2 := mul_ap k1 hSIX 1 6 lm (by grind) (by grind)
        have dv : (d : Rat) / 256 * (2 / 3 - u) * 6 = ((4 * d - U : Int) : Rat) / 256 := by
          rw [Rat.intCast_sub, Rat.intCast_mul, ← eU]
          have : ((4 : Int) : Rat) = 4 := rfl
          rw [this]; grind
        rw [dv] at k2
        have n0 : (0 : Rat) ≤ ((4 * d - U : Int) : Rat) := Rat.intCast_nonneg.mpr (by lia)
        have n1 : ((4 * d - U : Int) : Rat) ≤ 255 := Rat.intCast_le_intCast (b := 255) |>.mpr (by lia)
        have k3 := add_ap h1 k2 (by grind) (by grind)
        exact k3.mono (by rw [Rat.intCast_add]; grind) (by grind)
      · rw [if_neg c3]
        have hge3 : ¬ v (divmod x ONE).snd < v C23 := fun q => c3 ((cmp_lt_iff hf f23).mpr q)
        have U4 : 4 * d ≤ U := down (c := 2 / 3) (z := 4 * d) (by grind) (by rw [ic4]; grind)
        have ph : phi d U = 0 := by unfold phi; repeat' split
                                    all_goals lia
        rw [ph]
        refine fin 0 (by lia) (by lia) ?_
        rw [Int.add_zero]
        exact h1.mono rfl (by grind)
end
end Mine
end
section
set_option maxRecDepth 100000
namespace Mine
open PySem PySem.Float64

/- a colour turned by k sixths of the wheel -/
noncomputable def rotI (k r g b : Int) : Int × Int × Int :=
  let s := max r (max g b) + min r (min g b)
  if k = 1 then (s - g, s - b, s - r) else if k = 2 then (b, r, g) else if k = 3 then (s - r, s - g, s - b) else if k = 4 then (g, b, r) else (s - b, s - r, s - g)
/- the part of a colour at the place d p + x of the wheel of 6 d -/
noncomputable def tt (d m x p : Int) : Int := m + (if p % 6 = 0 then x else if p % 6 = 1 then d else if p % 6 = 2 then d else if p % 6 = 3 then d - x else 0)
theorem tt_at {d m x p : Int} (q : Int) (h : p % 6 = q) : tt d m x p = m + (if q = 0 then x else if q = 1 then d else if q = 2 then d else if q = 3 then d - x else 0) := by unfold tt; rw [h]
theorem mod_cases (p : Int) : p % 6 = 0 ∨ p % 6 = 1 ∨ p % 6 = 2 ∨ p % 6 = 3 ∨ p % 6 = 4 ∨ p % 6 = 5 := by lia
theorem tt_anti (d m x p : Int) : tt d m x (p + 3) = 2 * m + d - tt d m x p := by
  rcases mod_cases p with h | h | h | h | h | h
  · rw [tt_at 0 h, tt_at 3 (by lia)]; show m + (d - x) = 2 * m + d - (m + x); lia
  · rw [tt_at 1 h, tt_at 4 (by lia)]; show m + 0 = 2 * m + d - (m + d); lia
  · rw [tt_at 2 h, tt_at 5 (by lia)]; show m + 0 = 2 * m + d - (m + d); lia
  · rw [tt_at 3 h, tt_at 0 (by lia)]; show m + x = 2 * m + d - (m + (d - x)); lia
  · rw [tt_at 4 h, tt_at 1 (by lia)]; show m + d = 2 * m + d - (m + 0); lia
  · rw [tt_at 5 h, tt_at 2 (by lia)]; show m + d = 2 * m + d - (m + 0); lia
theorem tt_per (d m x : Int) {p q : Int} (h : p % 6 = q % 6) : tt d m x p = tt d m x q := by unfold tt; rw [h]
theorem phi_tt {d x p : Int} (m : Int) (hd : 0 < d) (x0 : 0 ≤ x) (x1 : x ≤ d) (h0 : 0 ≤ d * p + x) (h6 : d * p + x ≤ 6 * d) : m + phi d (d * p + x) = tt d m x p := by
  have hp : p = -1 ∨ p = 0 ∨ p = 1 ∨ p = 2 ∨ p = 3 ∨ p = 4 ∨ p = 5 ∨ p = 6 := by
    by_cases a : 7 ≤ p
    · have := Int.mul_le_mul_of_nonneg_left a (Int.le_of_lt hd); lia
    · by_cases c : p ≤ -2
      · have := Int.mul_le_mul_of_nonneg_left c (Int.le_of_lt hd); lia
      · clear h0 h6; lia
  unfold phi
  rcases hp with rfl | rfl | rfl | rfl | rfl | rfl | rfl | rfl
  · rw [tt_at 5 rfl, if_pos (by lia)]; show m + _ = m + 0; lia
  · rw [tt_at 0 rfl, if_pos (by lia)]; show m + _ = m + x; lia
  · rw [tt_at 1 rfl]; show m + _ = m + d; split
    · lia
    · rw [if_pos (by lia)]
  · rw [tt_at 2 rfl, if_neg (by lia), if_pos (by lia)]; show m + _ = m + d; lia
  · rw [tt_at 3 rfl, if_neg (by lia)]; show m + _ = m + (d - x); split
    · lia
    · rw [if_pos (by lia)]; lia
  · rw [tt_at 4 rfl, if_neg (by lia), if_neg (by lia)]; show m + _ = m + 0; split <;> lia
  · rw [tt_at 5 rfl, if_neg (by lia), if_neg (by lia), if_neg (by lia)]; rfl
  · rw [tt_at 0 rfl, if_neg (by lia), if_neg (by lia), if_neg (by lia)]; show m + 0 = m + x; lia
theorem sector {r g b M m d : Int} (hd : M - m = d) (h0 : 0 < d) (cs : r ≤ M ∧ g ≤ M ∧ b ≤ M ∧ m ≤ r ∧ m ≤ g ∧ m ≤ b ∧ (r = M ∨ g = M ∨ b = M) ∧ (r = m ∨ g = m ∨ b = m)) :
    ∃ s x, 0 ≤ x ∧ x ≤ d ∧ (if r = M then g - b else if g = M then 2 * d + b - r else 4 * d + r - g) = d * s + x ∧ r = tt d m x (s + 2) ∧ g = tt d m x s ∧ b = tt d m x (s - 2) := by
  obtain ⟨l1, l2, l3, l4, l5, l6, cM, cm⟩ := cs
  by_cases c1 : r = M
  · rw [if_pos c1]
    by_cases c : b ≤ g
    · refine ⟨0, g - b, by lia, by lia, by lia, ?_, ?_, ?_⟩
      · rw [tt_at 2 rfl]; show r = m + d; lia
      · rw [tt_at 0 rfl]; show g = m + (g - b); lia
      · rw [tt_at 4 rfl]; show b = m + 0; lia
    · refine ⟨-1, d + g - b, by lia, by lia, by lia, ?_, ?_, ?_⟩
      · rw [tt_at 1 rfl]; show r = m + d; lia
      · rw [tt_at 5 rfl]; show g = m + 0; lia
      · rw [tt_at 3 rfl]; show b = m + (d - (d + g - b)); lia
  · rw [if_neg c1]
    by_cases c2 : g = M
    · rw [if_pos c2]
      by_cases c : b ≤ r
      · refine ⟨1, d + b - r, by lia, by lia, by lia, ?_, ?_, ?_⟩
        · rw [tt_at 3 rfl]; show r = m + (d - (d + b - r)); lia
        · rw [tt_at 1 rfl]; show g = m + d; lia
        · rw [tt_at 5 rfl]; show b = m + 0; lia
      · refine ⟨2, b - r, by lia, by lia, by lia, ?_, ?_, ?_⟩
        · rw [tt_at 4 rfl]; show r = m + 0; lia
        · rw [tt_at 2 rfl]; show g = m + d; lia
        · rw [tt_at 0 rfl]; show b = m + (b - r); lia
    · rw [if_neg c2]
      by_cases c : r ≤ g
      · refine ⟨3, d + r - g, by lia, by lia, by lia, ?_, ?_, ?_⟩
        · rw [tt_at 5 rfl]; show r = m + 0; lia
        · rw [tt_at 3 rfl]; show g = m + (d - (d + r - g)); lia
        · rw [tt_at 1 rfl]; show b = m + d; lia
      · refine ⟨4, r - g, by lia, by lia, by lia, ?_, ?_, ?_⟩
        · rw [tt_at 0 rfl]; show r = m + (r - g); lia
        · rw [tt_at 4 rfl]; show g = m + 0; lia
        · rw [tt_at 2 rfl]; show b = m + d; lia
theorem rot_tt {r g b M m d s x : Int} (hd : M - m = d) (er : r = tt d m x (s + 2)) (eg : g = tt d m x s) (eb : b = tt d m x (s - 2)) (S : Int) (hS : S = M + m) :
    (S - r = tt d m x (s + 5) ∧ S - g = tt d m x (s + 3) ∧ S - b = tt d m x (s + 1)) := by
  have a := tt_anti d m x (s + 2)
  have b' := tt_anti d m x s
  have c := tt_anti d m x (s - 2)
  rw [show s + 2 + 3 = s + 5 by lia] at a
  rw [show s - 2 + 3 = s + 1 by lia] at c
  lia
theorem wheel {r g b k U n j : Int} (hd : min r (min g b) < max r (max g b)) (hk : 1 ≤ k ∧ k ≤ 5) (hj : j = 2 ∨ j = 0 ∨ j = -2) (h0 : 0 ≤ U) (h6 : U ≤ 6 * (max r (max g b) - min r (min g b)))
    (hU : U = hueI r g b + (max r (max g b) - min r (min g b)) * k + (max r (max g b) - min r (min g b)) * j - 6 * ((max r (max g b) - min r (min g b)) * n)) :
    min r (min g b) + phi (max r (max g b) - min r (min g b)) U = if j = 2 then (rotI k r g b).1 else if j = 0 then (rotI k r g b).2.1 else (rotI k r g b).2.2 := by
  unfold rotI
  obtain ⟨M, m, e1, e2, cs⟩ := mm_cases r g b
  unfold hueI at hU
  simp only [e1, e2] at hd h6 hU ⊢
  have hd' : 0 < M - m := by lia
  generalize hdd : M - m = d at *
  obtain ⟨s, x, x0, x1, hs, er, eg, eb⟩ := sector hdd hd' cs
  obtain ⟨f1, f2, f3⟩ := rot_tt hdd er eg eb _ rfl
  rw [hs] at hU
  have eU : U = d * (s + k + j - 6 * n) + x := by rw [hU, Int.mul_sub, Int.mul_add, Int.mul_add, Int.mul_left_comm d 6 n]; lia
  rw [eU] at h0 h6 ⊢
  rw [phi_tt m hd' x0 x1 h0 h6, f1, f2, f3]
  have hk5 : k = 1 ∨ k = 2 ∨ k = 3 ∨ k = 4 ∨ k = 5 := by clear hU eU h0 h6; lia
  clear hU eU h0 h6 hs f1 f2 f3 cs e1 e2
  rcases hj with rfl | rfl | rfl <;> rcases hk5 with rfl | rfl | rfl | rfl | rfl <;> simp (config := {failIfUnchanged := false}) only [if_true, if_false, Int.reduceEq, Int.reduceNeg] <;> first | exact tt_per d m x (by lia) | exact (tt_per d m x (by lia)).trans er.symm | exact (tt_per d m x (by lia)).trans eg.symm | exact (tt_per d m x (by lia)).trans eb.symm
theorem all_eq {r g b : Int} (h : ¬ min r (min g b) < max r (max g b)) : min r (min g b) = r ∧ max r (max g b) = r ∧ g = r ∧ b = r := by
  obtain ⟨x1, x2, x3, _⟩ := max_is r g b
  obtain ⟨y1, y2, y3, _⟩ := min_is3 r g b
  have h := Int.not_lt.mp h
  have e1 := Int.le_antisymm y1 (Int.le_trans x1 h)
  have e2 := Int.le_antisymm (Int.le_trans h y1) x1
  exact ⟨e1, e2, (Int.le_antisymm (Int.le_trans h y2) x2).symm.trans e2, (Int.le_antisymm (Int.le_trans h y3) x3).symm.trans e2⟩
section
variable {R G B : UInt64} {r g b : Int}
theorem hue_pure (hR : Pt R r) (hG : Pt G g) (hB : Pt B b) (h : In255 r g b) (sec k : Int) (hk : 1 ≤ k ∧ k ≤ 5) (hs : sec = 14400 * k ∨ sec = 14400 * k - 86400) (q : UInt64 × UInt64 × UInt64)
    (hq : q = backF (Float64.add (hlsF R G B).1 (divI sec 86400)) (hlsF R G B).2.1 (hlsF R G B).2.2) :
    (Fn (Float64.mul q.1 C256) ∧ toI (Float64.mul q.1 C256) = (rotI k r g b).1) ∧ (Fn (Float64.mul q.2.1 C256) ∧ toI (Float64.mul q.2.1 C256) = (rotI k r g b).2.1) ∧ (Fn (Float64.mul q.2.2 C256) ∧ toI (Float64.mul q.2.2 C256) = (rotI k r g b).2.2) := by
  subst hq
  have hep : 0 ≤ ep := E_nonneg _
  have hsm := ep_eq
  have emm := eq_mm hR hG hB
  by_cases hd : min r (min g b) < max r (max g b)
  · have he : ¬ eqF (min3F R G B) (max3F R G B) = true := fun z => by have := emm.mp z; omega
    have e1 : hlsF R G B = (hueF R G B, lumF R G B, satF R G B) := by unfold hlsF; rw [if_neg he]
    rw [e1]
    obtain ⟨x2, x1, hs0⟩ := ends_ap hR hG hB h hd
    have e2 : ∀ z, backF z (lumF R G B) (satF R G B) = (vF (m1F (lumF R G B) (satF R G B)) (m2F (lumF R G B) (satF R G B)) (Float64.add z C13), vF (m1F (lumF R G B) (satF R G B)) (m2F (lumF R G B) (satF R G B)) z, vF (m1F (lumF R G B) (satF R G B)) (m2F (lumF R G B) (satF R G B)) (Float64.sub z C13)) := fun z => by
      unfold backF; rw [hs0, if_neg Bool.false_ne_true]
    rw [e2]
    refine hide fun GG hGG => ?_
    have wh := fun (U n j : Int) => wheel (r := r) (g := g) (b := b) (k := k) (U := U) (n := n) (j := j) hd hk
    have hue := hue_ap hR hG hB h hd
    obtain ⟨M, m, f1, f2, cs⟩ := mm_cases r g b
    have bd := mm_bd h cs
    clear cs
    simp only [f1, f2] at hd x2 x1 hue wh
    have hdd : 0 < M - m := by omega
    have D0 : (0 : Rat) < ((M - m : Int) : Rat) := Rat.intCast_pos.mpr hdd
    have D6 : (6 * ((M - m : Int) : Rat)) ≠ 0 := by grind
    have ht := Rat.div_mul_cancel (a := (hueI r g b : Rat)) D6
    obtain ⟨n0, a0, u1, u2⟩ := hue _ _ rfl ht
    generalize (hueI r g b : Rat) / (6 * ((M - m : Int) : Rat)) = t at *
    -- the seconds
    have hsec : ∃ c : Int, Ap (divI sec 86400) ((k : Rat) / 6 - c) ep ∧ (c = 0 ∨ c = 1) := by
      have hbig := big_ep
      have k1 : (1 : Rat) ≤ (k : Rat) := Rat.intCast_le_intCast (a := 1) |>.mpr hk.1
      have k5 : (k : Rat) ≤ 5 := Rat.intCast_le_intCast (b := 5) |>.mpr hk.2
      have c1 : ((86400 : Int) : Rat) = 86400 := rfl
      have c2 : ((14400 : Int) : Rat) = 14400 := rfl
      rcases hs with rfl | rfl
      · exact ⟨0, divI_err (a := 14400 * k) (b := 86400) (by decide) ((k : Rat) / 6 - ((0 : Int) : Rat)) (by rw [Rat.intCast_mul, c1, c2]; have : ((0 : Int) : Rat) = 0 := rfl; rw [this]; grind) 1024 (by omega) (by rw [hbig]; have : ((0 : Int) : Rat) = 0 := rfl; rw [this]; grind) (by rw [hbig]; have : ((0 : Int) : Rat) = 0 := rfl; rw [this]; grind), .inl rfl⟩
      · exact ⟨1, divI_err (a := 14400 * k - 86400) (b := 86400) (by decide) ((k : Rat) / 6 - ((1 : Int) : Rat)) (by rw [Rat.intCast_sub, Rat.intCast_mul, c1, c2]; have : ((1 : Int) : Rat) = 1 := rfl; rw [this]; grind) 1024 (by omega) (by rw [hbig]; have : ((1 : Int) : Rat) = 1 := rfl; rw [this]; grind) (by rw [hbig]; have : ((1 : Int) : Rat) = 1 := rfl; rw [this]; grind), .inr rfl⟩
    obtain ⟨c, as, hc⟩ := hsec
    have k1 : (1 : Rat) ≤ (k : Rat) := Rat.intCast_le_intCast (a := 1) |>.mpr hk.1
    have k5 : (k : Rat) ≤ 5 := Rat.intCast_le_intCast (b := 5) |>.mpr hk.2
    have c0 : (0 : Rat) ≤ (c : Rat) := Rat.intCast_nonneg.mpr (by omega)
    have c1 : (c : Rat) ≤ 1 := Rat.intCast_le_intCast (b := 1) |>.mpr (by omega)
    have p1 : t - n0 ≤ 1 + 6 * ep := by obtain ⟨_, y1, y2⟩ := a0; grind
    have p2 : -(6 * ep) ≤ t - n0 := by obtain ⟨_, y1, y2⟩ := a0; grind
    have a2 := add_ap a0 as (by grind) (by grind)
    have h13 : Ap C13 (1 / 3) ep := C13_v
    have xr := (add_ap a2 h13 (by grind) (by grind)).mono (q := (t + (k : Rat) / 6 + 1 / 3) - ((n0 + c : Int) : Rat)) (b := 8 * ep) (by rw [Rat.intCast_add]; grind) (by grind)
    have xg := a2.mono (q := (t + (k : Rat) / 6) - ((n0 + c : Int) : Rat)) (b := 8 * ep) (by rw [Rat.intCast_add]; grind) (by grind)
    have xb := (sub_ap a2 h13 (by grind) (by grind)).mono (q := (t + (k : Rat) / 6 - 1 / 3) - ((n0 + c : Int) : Rat)) (b := 8 * ep) (by rw [Rat.intCast_add]; grind) (by grind)
    have x2' : Ap (m2F (lumF R G B) (satF R G B)) (((m + (M - m) : Int) : Rat) / 256) (5 * ep) := by
      rw [show m + (M - m) = M by omega]; exact x2
    have two : ((2 : Int) : Rat) = 2 := rfl
    have mtwo : ((-2 : Int) : Rat) = -2 := rfl
    have zero : ((0 : Int) : Rat) = 0 := rfl
    refine hGG ⟨?_, ?_, ?_⟩ <;> clear hGG GG <;> refine hide fun GG hGG => ?_
    · obtain ⟨U, U0, U6, ⟨n, hU⟩, f, e⟩ := v_round (T := hueI r g b + (M - m) * k + (M - m) * 2) (by omega) hdd (by omega) x1 x2' _ (by rw [Rat.intCast_add, Rat.intCast_add, Rat.intCast_mul, Rat.intCast_mul, ← ht, two]; grind) _ xr
      refine hGG ⟨f, e.trans ?_⟩
      clear hGG
      rw [wh U n 2 (.inl rfl) U0 U6 hU, if_pos rfl]
    · obtain ⟨U, U0, U6, ⟨n, hU⟩, f, e⟩ := v_round (T := hueI r g b + (M - m) * k + (M - m) * 0) (by omega) hdd (by omega) x1 x2' _ (by rw [Rat.intCast_add, Rat.intCast_add, Rat.intCast_mul, Rat.intCast_mul, ← ht, zero]; grind) _ xg
      refine hGG ⟨f, e.trans ?_⟩
      clear hGG
      rw [wh U n 0 (.inr (.inl rfl)) U0 U6 hU, if_neg (by decide), if_pos rfl]
    · obtain ⟨U, U0, U6, ⟨n, hU⟩, f, e⟩ := v_round (T := hueI r g b + (M - m) * k + (M - m) * (-2)) (by omega) hdd (by omega) x1 x2' _ (by rw [Rat.intCast_add, Rat.intCast_add, Rat.intCast_mul, Rat.intCast_mul, ← ht, mtwo]; grind) _ xb
      refine hGG ⟨f, e.trans ?_⟩
      clear hGG
      rw [wh U n (-2) (.inr (.inr rfl)) U0 U6 hU, if_neg (by decide), if_neg (by decide)]
  · have l := lum_v hR hG hB h
    obtain ⟨em, eM, eg, eb⟩ := all_eq hd
    have hrot : rotI k r g b = (r, r, r) := by
      unfold rotI
      rw [em, eM, eg, eb]
      dsimp only
      rw [Int.add_sub_cancel]
      simp only [ite_self]
    have heq : min r (min g b) = max r (max g b) := em.trans eM.symm
    have e1 : hlsF R G B = (0, lumF R G B, 0) := by unfold hlsF; rw [if_pos (emm.mpr heq)]
    have e2 : ∀ z l, backF z l 0 = (l, l, l) := fun z l => by unfold backF; rw [if_pos (by decide +kernel)]
    rw [e1, e2, hrot]
    have hM : max r (max g b) = r := eM
    have hlv : v (lumF R G B) = (r : Rat) / 256 := by
      rw [l.2, heq, hM, Rat.intCast_add]; grind
    unfold In255 at h
    have n0 : (0 : Rat) ≤ (r : Rat) := Rat.intCast_nonneg.mpr (by omega)
    have n1 : (r : Rat) ≤ 255 := Rat.intCast_le_intCast (b := 255) |>.mpr (by omega)
    have hm := mul_err l.1 C256_v.1 1030 (by omega) (by rw [big_64, C256_v.2, hlv]; grind) (by rw [big_64, C256_v.2, hlv]; grind)
    rw [C256_v.2, E_64, hlv] at hm
    obtain ⟨f, p1, p2⟩ := hm
    have hnat : (r.toNat : Int) = r := by omega
    have hc : ((r.toNat : Nat) : Rat) = (r : Rat) := by rw [← Rat.intCast_natCast, hnat]
    have key : Fn (Float64.mul (lumF R G B) C256) ∧ toI (Float64.mul (lumF R G B) C256) = r := ⟨f, by rw [round_near f r.toNat (by rw [hc]; grind) (by rw [hc]; grind), hnat]⟩
    exact ⟨key, key, key⟩
end
end Mine
end
section
/- plain law, upon colours -/
namespace Mine
/- all parts from 0 to M -/
noncomputable def In0 (M : Int) (c : Col) : Prop := (0 ≤ c.1 ∧ c.1 ≤ M) ∧ (0 ≤ c.2.1 ∧ c.2.1 ≤ M) ∧ (0 ≤ c.2.2 ∧ c.2.2 ≤ M)
/- the parts lie at most M apart -/
noncomputable def Spr (M : Int) (c : Col) : Prop := c.1 - c.2.1 ≤ M ∧ c.2.1 - c.1 ≤ M ∧ c.1 - c.2.2 ≤ M ∧ c.2.2 - c.1 ≤ M ∧ c.2.1 - c.2.2 ≤ M ∧ c.2.2 - c.2.1 ≤ M
/- no grey -/
noncomputable def Zero (c : Col) : Prop := 0 ≤ c.1 ∧ 0 ≤ c.2.1 ∧ 0 ≤ c.2.2 ∧ (c.1 = 0 ∨ c.2.1 = 0 ∨ c.2.2 = 0)
noncomputable def lessP (a b c : Int) : Col := (a - min a (min b c), b - min a (min b c), c - min a (min b c))
noncomputable def lessC (c d : Col) : Col := lessP (c.1 - d.1) (c.2.1 - d.2.1) (c.2.2 - d.2.2)
/- a turn of c by z sixths, but for grey -/
noncomputable def IsTurn (z : Int) (c t : Col) : Prop := key t = rho z (key c) ∧ ∀ M, In0 M c → Spr M t
theorem min_mem (a b c : Int) : (min a (min b c) = a ∧ a ≤ b ∧ a ≤ c) ∨ (min a (min b c) = b ∧ b ≤ a ∧ b ≤ c) ∨ (min a (min b c) = c ∧ c ≤ a ∧ c ≤ b) := by
  obtain ⟨h1, h2, h3, h4⟩ := min_is3 a b c
  rcases h4 with h | h | h
  · exact .inl ⟨h.symm, Int.le_trans (Int.le_of_eq h) h2, Int.le_trans (Int.le_of_eq h) h3⟩
  · exact .inr (.inl ⟨h.symm, Int.le_trans (Int.le_of_eq h) h1, Int.le_trans (Int.le_of_eq h) h3⟩)
  · exact .inr (.inr ⟨h.symm, Int.le_trans (Int.le_of_eq h) h1, Int.le_trans (Int.le_of_eq h) h2⟩)
theorem lessP_zero (a b c : Int) : Zero (lessP a b c) := by
  unfold Zero lessP
  dsimp only
  rcases min_mem a b c with ⟨h, _, _⟩ | ⟨h, _, _⟩ | ⟨h, _, _⟩ <;> (rw [h]; lia)
theorem lessP_key (a b c : Int) : key (lessP a b c) = (a - b, b - c) := by
  unfold key lessP
  refine Prod.ext ?_ ?_ <;> dsimp only <;> lia
theorem less_zero (c d : Col) : Zero (lessC c d) := lessP_zero _ _ _
theorem less_key (c d : Col) : key (lessC c d) = subK (key c) (key d) := by
  unfold lessC
  rw [lessP_key]
  unfold subK key
  refine Prod.ext ?_ ?_ <;> dsimp only <;> lia
theorem less_in {M : Int} {c d : Col} (hc : Spr M c) (hd : Spr M d) : In0 (2 * M) (lessC c d) := by
  unfold Spr at hc hd
  unfold In0 lessC lessP
  dsimp only
  rcases min_mem (c.1 - d.1) (c.2.1 - d.2.1) (c.2.2 - d.2.2) with ⟨h, _, _⟩ | ⟨h, _, _⟩ | ⟨h, _, _⟩ <;> (rw [h]; omega)
theorem spr_of {M : Int} {c : Col} (h : In0 M c) : Spr M c := by unfold In0 at h; unfold Spr; omega
theorem zero_eq {c d : Col} (hc : Zero c) (hd : Zero d) (h : key c = key d) : c = d := by
  obtain ⟨a, b, e⟩ := c
  obtain ⟨a', b', e'⟩ := d
  obtain ⟨c1, c2, c3, c4⟩ := hc
  obtain ⟨d1, d2, d3, d4⟩ := hd
  dsimp only at c1 c2 c3 c4 d1 d2 d3 d4
  unfold key at h
  simp only [Prod.mk.injEq] at h
  obtain ⟨h1, h2⟩ := h
  have : a = a' := by
    rcases c4 with h | h | h <;> rcases d4 with h' | h' | h' <;> omega
  subst this
  obtain rfl : b = b' := by omega
  obtain rfl : e = e' := by omega
  rfl
theorem turn_hue {z w : Int} {c : Col} (hz : 1 ≤ z ∧ z ≤ 5) : IsTurn z c (rotI z (c.1 + w) (c.2.1 + w) (c.2.2 + w)) := by
  obtain ⟨r, g, b⟩ := c
  have h : z = 1 ∨ z = 2 ∨ z = 3 ∨ z = 4 ∨ z = 5 := by lia
  unfold IsTurn key rotI rho Spr In0
  dsimp only
  generalize max (r + w) (max (g + w) (b + w)) + min (r + w) (min (g + w) (b + w)) = s
  rcases h with rfl | rfl | rfl | rfl | rfl <;> (refine ⟨?_, fun M hM => ?_⟩ <;> simp only [if_true, if_false, Int.reduceEq] <;> first | lia | (refine Prod.ext ?_ ?_ <;> dsimp only <;> lia))
/- what _law_by_octets gives -/
noncomputable def octI (z : Int) (c : Col) : Col :=
  if z = 1 then (255 - c.2.1, 255 - c.2.2, 255 - c.1) else if z = 2 then (c.2.2, c.1, c.2.1) else if z = 3 then (255 - c.1, 255 - c.2.1, 255 - c.2.2) else if z = 4 then (c.2.1, c.2.2, c.1) else (255 - c.2.2, 255 - c.1, 255 - c.2.1)
theorem turn_oct {z : Int} {c : Col} (hz : 1 ≤ z ∧ z ≤ 5) : IsTurn z c (octI z c) := by
  obtain ⟨r, g, b⟩ := c
  have h : z = 1 ∨ z = 2 ∨ z = 3 ∨ z = 4 ∨ z = 5 := by lia
  unfold IsTurn key octI rho Spr In0
  dsimp only
  rcases h with rfl | rfl | rfl | rfl | rfl <;> (refine ⟨?_, fun M hM => ?_⟩ <;> simp only [if_true, if_false, Int.reduceEq] <;> first | lia | (refine Prod.ext ?_ ?_ <;> dsimp only <;> lia))
/- the ring behind some zones -/
structure RingAt (M : Int) (f : Nat → Int × Int) (zs : List Int) (r : Nat → Col) : Prop where
  keys : ∀ k, k < 6 → key (r k) = foldK zs f k
  parts : ∀ k, k < 6 → In0 M (r k)
theorem foldK_snoc (zs : List Int) (z : Int) (f : Nat → Int × Int) : foldK (zs ++ [z]) f = stepK z (foldK zs f) := by
  unfold foldK; rw [List.foldl_append]; rfl
theorem RingAt.step {M z : Int} {f : Nat → Int × Int} {zs : List Int} {r t : Nat → Col} (h : RingAt M f zs r) (ht : ∀ k, k < 6 → IsTurn z (r k) (t k)) :
    RingAt (2 * M) f (zs ++ [z]) (fun k => lessC (r ((k + 1) % 6)) (t k)) := by
  refine ⟨fun k hk => ?_, fun k hk => ?_⟩
  · rw [foldK_snoc]
    show key (lessC (r ((k + 1) % 6)) (t k)) = stepK z (foldK zs f) k
    rw [less_key, h.keys _ (Nat.mod_lt _ (by decide)), (ht k hk).1, h.keys k hk]
    rfl
  · exact less_in (spr_of (h.parts _ (Nat.mod_lt _ (by decide)))) ((ht k hk).2 M (h.parts k hk))
/- the zones of a day, in an order, the last the one left -/
theorem left_cases {l : Int} {zs : List Int} (h : (zs ++ [l]).Perm [1, 2, 3, 4, 5]) :
    ∃ ws, zs.Perm ws ∧ ((l = 1 ∧ ws = [2, 3, 4, 5]) ∨ (l = 2 ∧ ws = [1, 3, 4, 5]) ∨ (l = 3 ∧ ws = [1, 2, 4, 5]) ∨ (l = 4 ∧ ws = [1, 2, 3, 5]) ∨ (l = 5 ∧ ws = [1, 2, 3, 4])) := by
  have hm : l ∈ [1, 2, 3, 4, 5] := h.subset (List.mem_append_right _ (List.mem_singleton.mpr rfl))
  have h2 : (l :: zs).Perm [1, 2, 3, 4, 5] := (List.perm_append_comm (l₁ := [l]) (l₂ := zs)).trans h
  have h3 : zs.Perm ([1, 2, 3, 4, 5].erase l) := by
    have := h2.erase l
    rwa [List.erase_cons_head] at this
  simp only [List.mem_cons, List.not_mem_nil, or_false] at hm
  rcases hm with rfl | rfl | rfl | rfl | rfl
  · exact ⟨_, h3, .inl ⟨rfl, by decide⟩⟩
  · exact ⟨_, h3, .inr (.inl ⟨rfl, by decide⟩)⟩
  · exact ⟨_, h3, .inr (.inr (.inl ⟨rfl, by decide⟩))⟩
  · exact ⟨_, h3, .inr (.inr (.inr (.inl ⟨rfl, by decide⟩)))⟩
  · exact ⟨_, h3, .inr (.inr (.inr (.inr ⟨rfl, by decide⟩)))⟩
theorem ring4 {M l : Int} {f : Nat → Int × Int} {zs : List Int} {r : Nat → Col} (h : RingAt M f zs r) (hp : (zs ++ [l]).Perm [1, 2, 3, 4, 5]) (k : Nat) (hk : k < 6) : key (r k) = grownK l f (k + 4) := by
  obtain ⟨ws, h1, h2⟩ := left_cases hp
  rw [h.keys k hk, foldK_perm h1, fold4 l ws h2 f k hk]
theorem ring5 {M : Int} {f : Nat → Int × Int} {zs : List Int} {r : Nat → Col} (h : RingAt M f zs r) (hp : zs.Perm [1, 2, 3, 4, 5]) (k : Nat) (hk : k < 6) : key (r k) = sumK f 5 := by
  rw [h.keys k hk, foldK_perm hp, fold5 f k hk]
end Mine
end
section
/- plain law: the sides of the hexagon -/
namespace Mine
noncomputable def mx (c : Col) : Int := max c.1 (max c.2.1 c.2.2)
noncomputable def hueC (c : Col) : Int := hueI c.1 c.2.1 c.2.2
theorem zero_min {c : Col} (h : Zero c) : min c.1 (min c.2.1 c.2.2) = 0 := by
  obtain ⟨z1, z2, z3, z4⟩ := h
  obtain ⟨a, b, d, e⟩ := min_is3 c.1 c.2.1 c.2.2
  refine Int.le_antisymm ?_ ?_
  · rcases z4 with h | h | h
    · exact Int.le_trans a (Int.le_of_eq h)
    · exact Int.le_trans b (Int.le_of_eq h)
    · exact Int.le_trans d (Int.le_of_eq h)
  · rcases e with h | h | h
    · exact Int.le_trans z1 (Int.le_of_eq h)
    · exact Int.le_trans z2 (Int.le_of_eq h)
    · exact Int.le_trans z3 (Int.le_of_eq h)
/- the colour turned by one sixth -/
noncomputable def nx (c : Col) : Col := (mx c - c.2.1, mx c - c.2.2, mx c - c.1)
theorem mx_cases (c : Col) : c.1 ≤ mx c ∧ c.2.1 ≤ mx c ∧ c.2.2 ≤ mx c ∧ (c.1 = mx c ∨ c.2.1 = mx c ∨ c.2.2 = mx c) := max_is ..
theorem mx_of {c : Col} {D : Int} (h : c.1 ≤ D ∧ c.2.1 ≤ D ∧ c.2.2 ≤ D ∧ (c.1 = D ∨ c.2.1 = D ∨ c.2.2 = D)) : mx c = D := by
  obtain ⟨z1, z2, z3, z4⟩ := h
  obtain ⟨a, b, d, e⟩ := mx_cases c
  refine Int.le_antisymm ?_ ?_
  · rcases e with h | h | h
    · exact Int.le_trans (Int.le_of_eq h.symm) z1
    · exact Int.le_trans (Int.le_of_eq h.symm) z2
    · exact Int.le_trans (Int.le_of_eq h.symm) z3
  · rcases z4 with h | h | h
    · exact Int.le_trans (Int.le_of_eq h.symm) a
    · exact Int.le_trans (Int.le_of_eq h.symm) b
    · exact Int.le_trans (Int.le_of_eq h.symm) d
theorem nx_zero (c : Col) : Zero (nx c) := by
  have a := mx_cases c
  unfold Zero nx
  dsimp only
  lia
theorem nx_mx {c : Col} (h : Zero c) : mx (nx c) = mx c := by
  have a := mx_cases c
  unfold Zero at h
  refine mx_of ?_
  unfold nx
  dsimp only
  omega
theorem nx_key (c : Col) : key (nx c) = rho 1 (key c) := by
  unfold key nx
  show _ = (-(c.2.1 - c.2.2), c.1 - c.2.1 + (c.2.1 - c.2.2))
  refine Prod.ext ?_ ?_ <;> dsimp only <;> lia
theorem hue_at {c : Col} (hc : Zero c) {D : Int} (hD : mx c = D) : hueC c = if c.1 = D then c.2.1 - c.2.2 else if c.2.1 = D then 2 * D + c.2.2 - c.1 else 4 * D + c.1 - c.2.1 := by
  have e := zero_min hc
  unfold mx at hD
  unfold hueC hueI
  rw [e, hD, Int.sub_zero]
theorem nx_hue {c : Col} (hc : Zero c) (hp : 0 < mx c) : ∃ t, 0 ≤ t ∧ hueC (nx c) = hueC c + mx c - 6 * (mx c * t) := by
  have a := mx_cases c
  rw [hue_at hc rfl, hue_at (nx_zero c) (nx_mx hc)]
  unfold Zero at hc
  obtain ⟨r, g, b⟩ := c
  unfold nx
  dsimp only at hc a ⊢
  generalize mx (r, g, b) = D at *
  by_cases c1 : r = D
  · rw [if_pos c1]
    by_cases g0 : g = 0
    · rw [if_pos (by lia)]
      exact ⟨0, by lia, by lia⟩
    · rw [if_neg (by lia), if_pos (by lia)]
      exact ⟨0, by lia, by lia⟩
  · rw [if_neg c1]
    by_cases c2 : g = D
    · rw [if_pos c2, if_neg (by lia)]
      by_cases b0 : b = 0
      · rw [if_pos (by lia)]
        exact ⟨0, by lia, by lia⟩
      · rw [if_neg (by lia)]
        exact ⟨0, by lia, by lia⟩
    · rw [if_neg c2]
      by_cases g0 : g = 0
      · rw [if_pos (by lia)]
        exact ⟨1, by lia, by lia⟩
      · rw [if_neg (by lia), if_neg (by lia)]
        exact ⟨0, by lia, by lia⟩
theorem hue_rng {c : Col} (hc : Zero c) (hp : 0 < mx c) : -mx c ≤ hueC c ∧ hueC c < 5 * mx c := by
  have a := mx_cases c
  rw [hue_at hc rfl]
  unfold Zero at hc
  split
  · omega
  · split <;> omega
noncomputable def nxi : Nat → Col → Col
  | 0, c => c
  | n + 1, c => nx (nxi n c)
theorem nxi_zero {c : Col} (hc : Zero c) : ∀ n, Zero (nxi n c)
  | 0 => hc
  | _ + 1 => nx_zero _
theorem nxi_mx {c : Col} (hc : Zero c) : ∀ n, mx (nxi n c) = mx c
  | 0 => rfl
  | n + 1 => (nx_mx (nxi_zero hc n)).trans (nxi_mx hc n)
theorem nxi_hue {c : Col} (hc : Zero c) (hp : 0 < mx c) : ∀ n : Nat, ∃ t, 0 ≤ t ∧ hueC (nxi n c) = hueC c + (n : Int) * mx c - 6 * (mx c * t)
  | 0 => ⟨0, by lia, by show hueC c = _; lia⟩
  | n + 1 => by
    obtain ⟨t, t0, h⟩ := nxi_hue hc hp n
    obtain ⟨u, u0, g⟩ := nx_hue (nxi_zero hc n) (by rw [nxi_mx hc n]; exact hp)
    rw [nxi_mx hc n] at g
    exact ⟨t + u, by lia, g.trans (by rw [h, Int.mul_add, Int.natCast_succ, Int.add_mul]; lia)⟩
theorem rho_next (p : Int × Int) : rho 2 p = rho 1 (rho 1 p) ∧ rho 3 p = rho 1 (rho 2 p) ∧ rho 4 p = rho 1 (rho 3 p) ∧ rho 5 p = rho 1 (rho 4 p) := by
  obtain ⟨x, y⟩ := p
  refine ⟨?_, ?_, ?_, ?_⟩
  · show (-x - y, x) = (-(x + y), -y + (x + y)); refine Prod.ext ?_ ?_ <;> dsimp only <;> lia
  · show (-x, -y) = (-x, (-x - y) + x); refine Prod.ext ?_ ?_ <;> dsimp only <;> lia
  · show (y, -x - y) = (- -y, -x + -y); refine Prod.ext ?_ ?_ <;> dsimp only <;> lia
  · show (x + y, -x) = (-(-x - y), y + (-x - y)); refine Prod.ext ?_ ?_ <;> dsimp only <;> lia
theorem nxi_eq {z : Int} {c d : Col} (hz : 1 ≤ z ∧ z ≤ 5) (hc : Zero c) (hd : Zero d) (h : key d = rho z (key c)) : ∃ n : Nat, (n : Int) = z ∧ d = nxi n c := by
  have hz' : z = 1 ∨ z = 2 ∨ z = 3 ∨ z = 4 ∨ z = 5 := by lia
  obtain ⟨r2, r3, r4, r5⟩ := rho_next (key c)
  rcases hz' with rfl | rfl | rfl | rfl | rfl
  · exact ⟨1, rfl, zero_eq hd (nxi_zero hc 1) (by rw [h]; show _ = key (nx c); rw [nx_key])⟩
  · exact ⟨2, rfl, zero_eq hd (nxi_zero hc 2) (by rw [h, r2]; show _ = key (nx (nx c)); rw [nx_key, nx_key])⟩
  · exact ⟨3, rfl, zero_eq hd (nxi_zero hc 3) (by rw [h, r3, r2]; show _ = key (nx (nx (nx c))); rw [nx_key, nx_key, nx_key])⟩
  · exact ⟨4, rfl, zero_eq hd (nxi_zero hc 4) (by rw [h, r4, r3, r2]; show _ = key (nx (nx (nx (nx c)))); rw [nx_key, nx_key, nx_key, nx_key])⟩
  · exact ⟨5, rfl, zero_eq hd (nxi_zero hc 5) (by rw [h, r5, r4, r3, r2]; show _ = key (nx (nx (nx (nx (nx c))))); rw [nx_key, nx_key, nx_key, nx_key, nx_key])⟩
theorem turn_mx {z : Int} {c d : Col} (hz : 1 ≤ z ∧ z ≤ 5) (hc : Zero c) (hd : Zero d) (h : key d = rho z (key c)) : mx d = mx c := by
  obtain ⟨n, _, rfl⟩ := nxi_eq hz hc hd h
  exact nxi_mx hc n
theorem turn_hueC {z : Int} {c d : Col} (hz : 1 ≤ z ∧ z ≤ 5) (hc : Zero c) (hd : Zero d) (h : key d = rho z (key c)) (hp : 0 < mx c) :
    hueC d = hueC c + z * mx c ∨ hueC d = hueC c + z * mx c - 6 * mx c := by
  have hM := turn_mx hz hc hd h
  obtain ⟨n, en, ed⟩ := nxi_eq hz hc hd h
  obtain ⟨t, t0, e⟩ := nxi_hue hc hp n
  rw [← ed, en] at e
  have r1 := hue_rng hc hp
  have r2 := hue_rng hd (by rw [hM]; exact hp)
  rw [hM] at r2
  have zb : z * mx c ≤ 5 * mx c := Int.mul_le_mul_of_nonneg_right hz.2 (Int.le_of_lt hp)
  by_cases c2 : 2 ≤ t
  · have := Int.mul_le_mul_of_nonneg_left c2 (Int.le_of_lt hp); lia
  · have ht : t = 0 ∨ t = 1 := by clear e r1 r2 zb; lia
    rcases ht with rfl | rfl
    · rw [Int.mul_zero] at e; exact .inl (by lia)
    · rw [Int.mul_one] at e; exact .inr e
theorem grown_step (l : Int) (hl : 1 ≤ l ∧ l ≤ 5) (f : Nat → Int × Int) (k : Nat) (hk : k < 6) : subK (grownK l f ((k + 1) % 6 + 4)) (rho l (grownK l f (k + 4))) = sumK f 5 := by
  have key : ∀ ws, ((l = 1 ∧ ws = [2, 3, 4, 5]) ∨ (l = 2 ∧ ws = [1, 3, 4, 5]) ∨ (l = 3 ∧ ws = [1, 2, 4, 5]) ∨ (l = 4 ∧ ws = [1, 2, 3, 5]) ∨ (l = 5 ∧ ws = [1, 2, 3, 4])) → (ws ++ [l]).Perm [1, 2, 3, 4, 5] → subK (grownK l f ((k + 1) % 6 + 4)) (rho l (grownK l f (k + 4))) = sumK f 5 := fun ws hw hp => by
    rw [← fold4 l ws hw f k hk, ← fold4 l ws hw f _ (Nat.mod_lt _ (by decide)), ← fold5 f k hk, ← foldK_perm hp f, foldK_snoc]
    rfl
  have hl' : l = 1 ∨ l = 2 ∨ l = 3 ∨ l = 4 ∨ l = 5 := by lia
  rcases hl' with rfl | rfl | rfl | rfl | rfl
  · exact key [2, 3, 4, 5] (.inl ⟨rfl, rfl⟩) (by decide)
  · exact key [1, 3, 4, 5] (.inr (.inl ⟨rfl, rfl⟩)) (by decide)
  · exact key [1, 2, 4, 5] (.inr (.inr (.inl ⟨rfl, rfl⟩))) (by decide)
  · exact key [1, 2, 3, 5] (.inr (.inr (.inr (.inl ⟨rfl, rfl⟩)))) (by decide)
  · exact key [1, 2, 3, 4] (.inr (.inr (.inr (.inr ⟨rfl, rfl⟩)))) (by decide)
/- the sides: each is the one ahead, turned by the zone that is left -/
theorem side_turn {l : Int} (hl : 1 ≤ l ∧ l ≤ 5) {f : Nat → Int × Int} {cor : Nat → Col} (hk : ∀ k, k < 6 → key (cor k) = grownK l f (k + 4)) (k : Nat) (h : k < 6) :
    key (lessC (cor (((k + 1) % 6 + 1) % 6)) (cor ((k + 1) % 6))) = rho l (key (lessC (cor ((k + 1) % 6)) (cor k))) := by
  have h1 : (k + 1) % 6 < 6 := Nat.mod_lt _ (by decide)
  have h2 : ((k + 1) % 6 + 1) % 6 < 6 := Nat.mod_lt _ (by decide)
  have a := grown_step l hl f k h
  have b := grown_step l hl f _ h1
  rw [less_key, less_key, rho_sub, hk _ h1, hk _ h2, hk _ h]
  have e : grownK l f (((k + 1) % 6 + 1) % 6 + 4) = addK (rho l (grownK l f ((k + 1) % 6 + 4))) (sumK f 5) := by
    rw [← b]; unfold addK subK; refine Prod.ext ?_ ?_ <;> dsimp only <;> lia
  have e' : grownK l f ((k + 1) % 6 + 4) = addK (rho l (grownK l f (k + 4))) (sumK f 5) := by
    rw [← a]; unfold addK subK; refine Prod.ext ?_ ?_ <;> dsimp only <;> lia
  rw [e]
  generalize hq : rho l (grownK l f ((k + 1) % 6 + 4)) = q
  rw [e'] 
  unfold addK subK
  refine Prod.ext ?_ ?_ <;> dsimp only <;> lia
end Mine
end
section
namespace Mine
open PySem
theorem E_128 : E 1031 = 128 * ep := by
  have a := E_step 1030
  simp only [Nat.reduceAdd] at a
  rw [a, E_64]; grind
theorem big_128 : (2 ^ 53 : Rat) * E 1031 = 1024 := by
  have a := E_step 1030
  simp only [Nat.reduceAdd] at a
  have := big_64
  rw [a]; grind
/- the place of a hue on the wheel, in steps of a sixth of the spread -/
theorem place_ok {R G B S : UInt64} {r g b D : Int} (hR : Pt R r) (hG : Pt G g) (hB : Pt B b) (h : In255 r g b) (hd : min r (min g b) < max r (max g b)) (hD : D = max r (max g b) - min r (min g b)) (hD9 : D ≤ 90) (hS : Fn S ∧ v S = (D : Rat)) :
    ∃ n : Int, Fn (Float64.mul (Float64.mul (hueF R G B) SIX) S) ∧ toI (Float64.mul (Float64.mul (hueF R G B) SIX) S) = hueI r g b - 6 * (D * n) := by
  have hD0 : 0 < D := by lia
  have d0 : (0 : Rat) < (D : Rat) := by
    have : ((0 : Int) : Rat) < (D : Rat) := Rat.intCast_lt_intCast.mpr hD0
    exact this
  have d9 : (D : Rat) ≤ 90 := Rat.intCast_le_intCast (b := 90) |>.mpr hD9
  have hep : 0 ≤ ep := E_nonneg _
  have hsm := ep_eq
  obtain ⟨n, a, u, l⟩ := hue_ap hR hG hB h hd (D : Rat) ((hueI r g b : Rat) / (6 * D)) (by rw [hD]) (Rat.div_mul_cancel (by grind))
  obtain ⟨f, a1, a2⟩ := a
  have ht : ((hueI r g b : Rat) / (6 * D)) * (6 * D) = (hueI r g b : Rat) := Rat.div_mul_cancel (by grind)
  generalize (hueI r g b : Rat) / (6 * D) = t at *
  have m1 := mul_err f SIX_v.1 1024 (by lia) (by rw [show E 1024 = ep from rfl, big_ep, SIX_v.2]; grind) (by rw [show E 1024 = ep from rfl, big_ep, SIX_v.2]; grind)
  rw [SIX_v.2, show E 1024 = ep from rfl] at m1
  obtain ⟨f1, b1, b2⟩ := m1
  generalize Float64.mul (hueF R G B) SIX = x at *
  have x1 : v x ≤ 6 * (t - n) + 25 * ep := by grind
  have x2 : 6 * (t - n) - 25 * ep ≤ v x := by grind
  have x3 : v x ≤ 7 := by grind
  have x4 : -(13 * ep) ≤ v x := by grind
  have y1 : v x * D ≤ (6 * (t - n) + 25 * ep) * D := Rat.mul_le_mul_of_nonneg_right x1 (by grind)
  have y2 : (6 * (t - n) - 25 * ep) * D ≤ v x * D := Rat.mul_le_mul_of_nonneg_right x2 (by grind)
  have y3 : v x * D ≤ 7 * D := Rat.mul_le_mul_of_nonneg_right x3 (by grind)
  have y4 : -(13 * ep) * D ≤ v x * D := Rat.mul_le_mul_of_nonneg_right x4 (by grind)
  have z1 : ep * D ≤ ep * 90 := Rat.mul_le_mul_of_nonneg_left d9 hep
  have z2 : 0 ≤ ep * D := Rat.mul_nonneg hep (by grind)
  have m2 := mul_err f1 hS.1 1031 (by lia) (by rw [big_128, hS.2]; grind) (by rw [big_128, hS.2]; grind)
  rw [hS.2, E_128] at m2
  obtain ⟨f2, c1, c2⟩ := m2
  refine ⟨n, f2, ?_⟩
  generalize Float64.mul x S = q at *
  have hN : (((hueI r g b - 6 * (D * n)) : Int) : Rat) = 6 * (t - n) * D := by
    rw [Rat.intCast_sub, Rat.intCast_mul, Rat.intCast_mul]
    have : ((6 : Int) : Rat) = 6 := rfl
    rw [this, ← ht]; grind
  have q1 : v q ≤ (((hueI r g b - 6 * (D * n)) : Int) : Rat) + 1 / 4 := by rw [hN]; grind
  have q2 : (((hueI r g b - 6 * (D * n)) : Int) : Rat) - 1 / 4 ≤ v q := by rw [hN]; grind
  have q3 : -(1 / 4) ≤ v q := by grind
  generalize hueI r g b - 6 * (D * n) = N at *
  have hN0 : 0 ≤ N := by
    have : (-1 : Rat) < (N : Rat) := by grind
    have h2 : ((-1 : Int) : Rat) < (N : Rat) := this
    have := Rat.intCast_lt_intCast.mp h2
    lia
  have hnat : (N.toNat : Int) = N := by lia
  have hc : ((N.toNat : Nat) : Rat) = (N : Rat) := by rw [← Rat.intCast_natCast, hnat]
  rw [round_near f2 N.toNat (by rw [hc]; grind) (by rw [hc]; grind), hnat]
/- keys that lie at most M apart -/
noncomputable def KSpr (M : Int) (p : Int × Int) : Prop := (-M ≤ p.1 ∧ p.1 ≤ M) ∧ (-M ≤ p.2 ∧ p.2 ≤ M) ∧ (-M ≤ p.1 + p.2 ∧ p.1 + p.2 ≤ M)
theorem kspr_rho {M z : Int} {p : Int × Int} (h : KSpr M p) : KSpr M (rho z p) := by
  unfold KSpr at *
  rcases rho_cases z with e | e | e | e | e <;> (rw [e]; dsimp only; lia)
theorem kspr_add {M N : Int} {p q : Int × Int} (h : KSpr M p) (g : KSpr N q) : KSpr (M + N) (addK p q) := by
  unfold KSpr addK at *; dsimp only; omega
theorem kspr_key {M : Int} {c : Col} (h : In0 M c) : KSpr M (key c) := by
  unfold KSpr key In0 at *; dsimp only; omega
theorem mx_of_key {M : Int} {c : Col} (hz : Zero c) (h : KSpr M (key c)) : mx c ≤ M := by
  obtain ⟨r, g, b⟩ := c
  unfold KSpr key Zero mx at *
  dsimp only at *
  omega
/- what the corner grows by -/
theorem grown_diff (l : Int) {M : Int} (f : Nat → Int × Int) (hf : ∀ k, k < 6 → KSpr M (f k)) : ∀ n : Nat, n < 5 → KSpr (((n : Int) + 2) * M) (subK (grownK l f (n + 1)) (grownK l f n)) := by
  have h0 : KSpr M (grownK l f 0) := hf 0 (by decide)
  intro n hn
  have base : ∀ n : Nat, n < 5 → subK (sumK f (n + 1)) (sumK f n) = f (n + 1) := by
    intro n hn
    show subK (if n < 5 then addK (sumK f n) (f (n + 1)) else sumK f n) (sumK f n) = f (n + 1)
    rw [if_pos hn]
    unfold subK addK
    refine Prod.ext ?_ ?_ <;> dsimp only <;> lia
  induction n with
  | zero =>
    have e : subK (grownK l f (0 + 1)) (grownK l f 0) = addK (rho l (grownK l f 0)) (f 1) := by
      have b0 : subK (sumK f 1) (sumK f 0) = f 1 := base 0 (by decide)
      show subK (addK (rho l (grownK l f 0)) (sumK f 1)) (sumK f 0) = _
      rw [← b0]
      unfold subK addK
      refine Prod.ext ?_ ?_ <;> dsimp only <;> lia
    rw [e]
    have := kspr_add (kspr_rho (z := l) h0) (hf 1 (by decide))
    have e2 : ((0 : Nat) : Int) + 2 = 1 + 1 := rfl
    rw [e2, Int.add_mul, Int.one_mul]; exact this
  | succ n ih =>
    have e : subK (grownK l f (n + 1 + 1)) (grownK l f (n + 1)) = addK (rho l (subK (grownK l f (n + 1)) (grownK l f n))) (f (n + 1 + 1)) := by
      rw [rho_sub, ← base (n + 1) hn]
      show subK (addK (rho l (grownK l f (n + 1))) (sumK f (n + 1 + 1))) (addK (rho l (grownK l f n)) (sumK f (n + 1))) = _
      unfold subK addK
      refine Prod.ext ?_ ?_ <;> dsimp only <;> lia
    rw [e]
    have := kspr_add (kspr_rho (z := l) (ih (by lia))) (hf (n + 1 + 1) (by lia))
    have e2 : (((n + 1 : Nat) : Int) + 2) * M = ((n : Int) + 2) * M + M := by
      rw [show ((n + 1 : Nat) : Int) + 2 = ((n : Int) + 2) + 1 by lia, Int.add_mul _ 1 M, Int.one_mul]
    rw [e2]; exact this
end Mine
end
section
namespace Mine
/- what _law_corners makes -/
noncomputable def addC (c d : Col) : Col := (c.1 + d.1, c.2.1 + d.2.1, c.2.2 + d.2.2)
noncomputable def rotS (c : Col) : Col := (-c.2.1, -c.2.2, -c.1)
noncomputable def rotN : Nat → Col → Col
  | 0, c => c
  | n + 1, c => rotS (rotN n c)
noncomputable def Hs (xs : Nat → Col) : Nat → Col
  | 0 => (0, 0, 0)
  | n + 1 => if n < 6 then addC (Hs xs n) (xs n) else Hs xs n
noncomputable def Gs (xs : Nat → Col) (k : Nat) : Nat → Col
  | 0 => (0, 0, 0)
  | n + 1 => addC (rotN k (Gs xs k n)) (Hs xs (n + 1))
noncomputable def Ks (xs : Nat → Col) (k : Nat) (i : Nat) : Col := lessP (Gs xs k (i + 1)).1 (Gs xs k (i + 1)).2.1 (Gs xs k (i + 1)).2.2
theorem key_add (c d : Col) : key (addC c d) = addK (key c) (key d) := by unfold key addC addK; refine Prod.ext ?_ ?_ <;> dsimp only <;> lia
theorem key_rotS (c : Col) : key (rotS c) = rho 1 (key c) := by
  show (-c.2.1 - -c.2.2, -c.2.2 - -c.1) = (-(c.2.1 - c.2.2), (c.1 - c.2.1) + (c.2.1 - c.2.2))
  refine Prod.ext ?_ ?_ <;> dsimp only <;> lia
theorem key_rotN (k : Nat) (hk : 1 ≤ k ∧ k ≤ 5) (c : Col) : key (rotN k c) = rho (k : Int) (key c) := by
  have r1 : ∀ p, rho 1 p = (-p.2, p.1 + p.2) := fun p => rfl
  have h : k = 1 ∨ k = 2 ∨ k = 3 ∨ k = 4 ∨ k = 5 := by lia
  rcases h with rfl | rfl | rfl | rfl | rfl
  · exact key_rotS c
  · show key (rotS (rotS c)) = (-(key c).1 - (key c).2, (key c).1)
    rw [key_rotS, key_rotS, r1, r1]; refine Prod.ext ?_ ?_ <;> dsimp only <;> lia
  · show key (rotS (rotS (rotS c))) = (-(key c).1, -(key c).2)
    rw [key_rotS, key_rotS, key_rotS, r1, r1, r1]; refine Prod.ext ?_ ?_ <;> dsimp only <;> lia
  · show key (rotS (rotS (rotS (rotS c)))) = ((key c).2, -(key c).1 - (key c).2)
    rw [key_rotS, key_rotS, key_rotS, key_rotS, r1, r1, r1, r1]; refine Prod.ext ?_ ?_ <;> dsimp only <;> lia
  · show key (rotS (rotS (rotS (rotS (rotS c))))) = ((key c).1 + (key c).2, -(key c).1)
    rw [key_rotS, key_rotS, key_rotS, key_rotS, key_rotS, r1, r1, r1, r1, r1]; refine Prod.ext ?_ ?_ <;> dsimp only <;> lia
theorem key_Hs (xs : Nat → Col) : ∀ n, key (Hs xs (n + 1)) = sumK (fun i => key (xs i)) n
  | 0 => by
    show key (if 0 < 6 then addC (0, 0, 0) (xs 0) else (0, 0, 0)) = key (xs 0)
    rw [if_pos (by decide), key_add]
    unfold addK key; refine Prod.ext ?_ ?_ <;> dsimp only <;> lia
  | n + 1 => by
    have ih := key_Hs xs n
    show key (if n + 1 < 6 then addC (Hs xs (n + 1)) (xs (n + 1)) else Hs xs (n + 1)) = (if n < 5 then addK (sumK (fun i => key (xs i)) n) (key (xs (n + 1))) else sumK (fun i => key (xs i)) n)
    by_cases h : n < 5
    · rw [if_pos h, if_pos (by lia), key_add, ih]
    · rw [if_neg h, if_neg (by lia), ih]
theorem key_Gs (xs : Nat → Col) (k : Nat) (hk : 1 ≤ k ∧ k ≤ 5) : ∀ n, key (Gs xs k (n + 1)) = grownK (k : Int) (fun i => key (xs i)) n
  | 0 => by
    show key (addC (rotN k (0, 0, 0)) (Hs xs 1)) = sumK _ 0
    rw [key_add, key_rotN k hk, key_Hs xs 0]
    have z : rho (k : Int) (key (0, 0, 0)) = (0, 0) := by
      rcases rho_cases (k : Int) with h | h | h | h | h <;> (rw [h]; rfl)
    rw [z]; unfold addK; refine Prod.ext ?_ ?_ <;> dsimp only <;> lia
  | n + 1 => by
    show key (addC (rotN k (Gs xs k (n + 1))) (Hs xs (n + 2))) = addK (rho k (grownK k _ n)) (sumK _ (n + 1))
    rw [key_add, key_rotN k hk, key_Gs xs k hk n, key_Hs xs (n + 1)]
theorem key_Ks (xs : Nat → Col) (k : Nat) (hk : 1 ≤ k ∧ k ≤ 5) (i : Nat) : key (Ks xs k i) = grownK (k : Int) (fun i => key (xs i)) i := by
  unfold Ks
  rw [lessP_key]
  exact key_Gs xs k hk i
theorem Ks_zero (xs : Nat → Col) (k i : Nat) : Zero (Ks xs k i) := lessP_zero _ _ _
/- all drawn colours laid on one another, without grey -/
noncomputable def mixC (xs : Nat → Col) : Col := lessP (Hs xs 10).1 (Hs xs 10).2.1 (Hs xs 10).2.2
theorem mixC_key (xs : Nat → Col) : key (mixC xs) = sumK (fun i => key (xs i)) 5 := by
  unfold mixC
  rw [lessP_key]
  exact key_Hs xs 9
theorem mixC_zero (xs : Nat → Col) : Zero (mixC xs) := lessP_zero _ _ _
end Mine
end
section
namespace Mine
open PySem PySem.Float64
theorem mul_just {x y : UInt64} (fx : Fn x) (fy : Fn y) (B j : Nat) (hB : 52 ≤ B ∧ B ≤ 1200) (h : v x * v y = (j : Rat) * E B) (hj : j < 2 ^ 53) : Fn (Float64.mul x y) ∧ v (Float64.mul x y) = (j : Rat) * E B := by
  obtain ⟨a, m, e, hx⟩ := fn_dec fx
  obtain ⟨b, k, f, hy⟩ := fn_dec fy
  have hr := mul_right hx hy
  have hK := KI_pos
  have hKN := KI_mul
  have ex := v_abs hx
  have ey := v_abs hy
  have exy : v x * v y = sg (a != b) * (((val x).natAbs * (val y).natAbs : Nat) : Rat) * KI * KI := by
    rw [ex, ey, sg_bne, Rat.natCast_mul]; grind
  rw [exy] at h
  generalize hWd : (val x).natAbs * (val y).natAbs = W at *
  have e1 : sg (a != b) * (W : Rat) = ((KN * (j * 2 ^ B) : Nat) : Rat) := by
    unfold E at h
    rw [Rat.natCast_mul, Rat.natCast_mul]
    generalize ((2 ^ B : Nat) : Rat) = P at *
    have q : (sg (a != b) * (W : Rat) * KI) * KI = ((j : Rat) * P) * KI := by grind
    have q2 := congrArg (· * KI⁻¹) q
    simp only [Rat.mul_assoc, Rat.mul_inv_cancel _ (Rat.ne_of_gt hK), Rat.mul_one] at q2
    grind
  cases hc : (a != b) with
  | false =>
    rw [hc] at hr e1
    have hW : W = KN * (j * 2 ^ B) := by
      have : (W : Rat) = ((KN * (j * 2 ^ B) : Nat) : Rat) := by unfold sg at e1; simp only [Bool.false_eq_true, if_false] at e1; grind
      exact_mod_cast this
    have z := right_just hr hB KN_pos hj hW
    refine ⟨z.1, z.2.trans ?_⟩
    unfold sg; simp only [Bool.false_eq_true, if_false]; grind
  | true =>
    rw [hc] at hr e1
    have hW0 : W = 0 ∧ j = 0 := by
      have p1 : (0 : Rat) ≤ (W : Rat) := by exact_mod_cast Nat.zero_le _
      have p2 : (0 : Rat) ≤ ((KN * (j * 2 ^ B) : Nat) : Rat) := by exact_mod_cast Nat.zero_le _
      unfold sg at e1; simp only [if_true] at e1
      have w0 : (W : Rat) = ((0 : Nat) : Rat) := by
        have : ((0 : Nat) : Rat) = 0 := rfl
        grind
      have k0 : ((KN * (j * 2 ^ B) : Nat) : Rat) = ((0 : Nat) : Rat) := by
        have : ((0 : Nat) : Rat) = 0 := rfl
        grind
      have w1 : W = 0 := by exact_mod_cast w0
      have k1 : KN * (j * 2 ^ B) = 0 := by exact_mod_cast k0
      refine ⟨w1, ?_⟩
      rcases Nat.mul_eq_zero.mp k1 with q | q
      · exact absurd q (Nat.ne_of_gt KN_pos)
      · rcases Nat.mul_eq_zero.mp q with q | q
        · exact q
        · exact absurd q (Nat.ne_of_gt (Nat.two_pow_pos _))
    obtain ⟨rfl, rfl⟩ := hW0
    have z := right_just (B := B) (j := 0) hr hB KN_pos (by decide) (by simp)
    refine ⟨z.1, z.2.trans ?_⟩
    have : ((0 : Nat) : Rat) = 0 := rfl
    grind
section
variable {R G B : UInt64} {r g b : Int}
/- the share of a colour whose least part is 0 is 1.0 -/
theorem sat_one (hR : Pt R r) (hG : Pt G g) (hB : Pt B b) (h : In255 r g b) (h0 : min r (min g b) = 0) (hd : 0 < max r (max g b)) : Fn (satF R G B) ∧ v (satF R G B) = 1 := by
  have a := rng_pt hR hG hB h
  have s := sum_pt hR hG hB h
  have lh := (le_half hR hG hB h).mpr (by unfold In255 at h; lia)
  rw [h0] at a s
  unfold satF
  rw [if_pos lh]
  have d0 : (0 : Rat) < ((max r (max g b) : Int) : Rat) := by
    have : ((0 : Int) : Rat) < ((max r (max g b) : Int) : Rat) := Rat.intCast_lt_intCast.mpr hd
    exact this
  have e1 : max r (max g b) - 0 = max r (max g b) := by lia
  have e2 : max r (max g b) + 0 = max r (max g b) := by lia
  rw [e1] at a
  rw [e2] at s
  have K : E 1065 * 512 = 1 := by rw [E_1065]; grind
  refine div_just a.1 s.1 1 (by rw [s.2, a.2]; grind) (by rw [s.2]; grind) 1065 512 (by lia) (by
    have : ((512 : Int) : Rat) = 512 := rfl
    rw [this]; grind) (by lia)
/- light * 512 is the spread -/
theorem light_512 {S : UInt64} (hR : Pt R r) (hG : Pt G g) (hB : Pt B b) (h : In255 r g b) (h0 : min r (min g b) = 0) (hS : Fn S ∧ v S = 512) : Fn (Float64.mul (lumF R G B) S) ∧ v (Float64.mul (lumF R G B) S) = ((max r (max g b) : Int) : Rat) := by
  have l := lum_v hR hG hB h
  rw [h0] at l
  have hm : 0 ≤ max r (max g b) := by unfold In255 at h; lia
  have hm2 : max r (max g b) ≤ 255 := by unfold In255 at h; lia
  generalize max r (max g b) = D at *
  have hnat : (D.toNat : Int) = D := by lia
  have hc : ((D.toNat : Nat) : Rat) = (D : Rat) := by rw [← Rat.intCast_natCast, hnat]
  have K : E 1074 = 1 := by
    have a := E_step 1066; have b := E_step 1067; have c := E_step 1068; have d := E_step 1069; have e := E_step 1070; have f := E_step 1071; have g := E_step 1072; have i := E_step 1073
    simp only [Nat.reduceAdd] at a b c d e f g i
    rw [E_1066] at a; grind
  have z := mul_just l.1 hS.1 1074 D.toNat (by lia) (by rw [l.2, hS.2, hc, K, show D + 0 = D by lia]; grind) (by lia)
  rw [hc, K] at z
  exact ⟨z.1, by rw [z.2]; grind⟩
end
end Mine
end
section
/- plain law, joined -/
namespace Mine
noncomputable abbrev keysOf (xs : Nat → Col) : Nat → Int × Int := fun i => key (xs i)
theorem ring_corner {M : Int} {xs r : Nat → Col} {zs : List Int} {l : Nat} (hl : 1 ≤ l ∧ l ≤ 5) (h : RingAt M (keysOf xs) zs r) (hz : ∀ k, k < 6 → Zero (r k)) (hp : (zs ++ [(l : Int)]).Perm [1, 2, 3, 4, 5]) (k : Nat) (hk : k < 6) : r k = Ks xs l (k + 4) :=
  zero_eq (hz k hk) (Ks_zero ..) (by rw [ring4 h hp k hk, key_Ks xs l hl])
theorem ring_mixed {M : Int} {xs r : Nat → Col} {zs : List Int} (h : RingAt M (keysOf xs) zs r) (hz : ∀ k, k < 6 → Zero (r k)) (hp : zs.Perm [1, 2, 3, 4, 5]) (k : Nat) (hk : k < 6) : r k = mixC xs :=
  zero_eq (hz k hk) (mixC_zero _) (by rw [ring5 h hp k hk, mixC_key])
/- the ring of the drawn colours -/
theorem ring_start {M : Int} {xs : Nat → Col} (h : ∀ k, k < 6 → In0 M (xs k)) : RingAt M (keysOf xs) [] xs := ⟨fun _ _ => rfl, h⟩
/- the side ahead of corner k -/
noncomputable def sideC (xs : Nat → Col) (l k : Nat) : Col := lessC (Ks xs l ((k + 1) % 6 + 4)) (Ks xs l (k + 4))
theorem sideC_zero (xs : Nat → Col) (l k : Nat) : Zero (sideC xs l k) := less_zero _ _
theorem sideC_turn {xs : Nat → Col} {l : Nat} (hl : 1 ≤ l ∧ l ≤ 5) (k : Nat) (hk : k < 6) : key (sideC xs l ((k + 1) % 6)) = rho (l : Int) (key (sideC xs l k)) :=
  side_turn (by lia) (cor := fun k => Ks xs l (k + 4)) (fun j _ => key_Ks xs l hl (j + 4)) k hk
theorem sideC_mx {xs : Nat → Col} {l : Nat} (hl : 1 ≤ l ∧ l ≤ 5) : ∀ k, k < 6 → mx (sideC xs l k) = mx (sideC xs l 0)
  | 0, _ => rfl
  | k + 1, h => by
    have e : (k + 1) % 6 = k + 1 := Nat.mod_eq_of_lt h
    have a := turn_mx (z := (l : Int)) (by lia) (sideC_zero xs l k) (sideC_zero xs l ((k + 1) % 6)) (sideC_turn hl k (by lia))
    rw [e] at a
    rw [a, sideC_mx hl k (by lia)]
theorem sideC_90 {xs : Nat → Col} {l : Nat} (hl : 1 ≤ l ∧ l ≤ 5) (hx : ∀ k, k < 6 → In0 15 (xs k)) (k : Nat) (hk : k < 6) : mx (sideC xs l k) ≤ 90 := by
  rw [sideC_mx hl k hk]
  refine mx_of_key (sideC_zero xs l 0) ?_
  have e : key (sideC xs l 0) = subK (grownK (l : Int) (keysOf xs) 5) (grownK (l : Int) (keysOf xs) 4) := by
    show key (lessC (Ks xs l 5) (Ks xs l 4)) = _
    rw [less_key, key_Ks xs l hl, key_Ks xs l hl]
  rw [e]
  exact grown_diff (l : Int) (M := 15) (keysOf xs) (fun k hk => kspr_key (hx k hk)) 4 (by decide)
theorem sideC_255 {xs : Nat → Col} {l : Nat} (hl : 1 ≤ l ∧ l ≤ 5) (hx : ∀ k, k < 6 → In0 15 (xs k)) (k : Nat) (hk : k < 6) : In255 (sideC xs l k).1 (sideC xs l k).2.1 (sideC xs l k).2.2 := by
  have a := sideC_90 hl hx k hk
  have b := sideC_zero xs l k
  unfold mx at a
  unfold Zero at b
  unfold In255
  omega
/- the hue of a side but for whole turns -/
theorem sideC_hue {xs : Nat → Col} {l : Nat} (hl : 1 ≤ l ∧ l ≤ 5) (hp : 0 < mx (sideC xs l 0)) (k : Nat) (hk : k < 6) :
    ∃ n : Int, hueC (sideC xs l ((k + 1) % 6)) = hueC (sideC xs l k) + l * mx (sideC xs l 0) + 6 * (mx (sideC xs l 0) * n) := by
  have hm := sideC_mx hl k hk (xs := xs)
  have a := turn_hueC (z := (l : Int)) (by lia) (sideC_zero xs l k) (sideC_zero xs l ((k + 1) % 6)) (sideC_turn hl k hk) (by rw [hm]; exact hp)
  rw [hm] at a
  rcases a with a | a
  · exact ⟨0, by rw [a]; lia⟩
  · exact ⟨-1, by rw [a]; lia⟩
/- the test at the end: a place is the one ahead, the zone that is left farther, but for whole turns -/
theorem places_ok {xs : Nat → Col} {l : Nat} (hl : 1 ≤ l ∧ l ≤ 5) (hp : 0 < mx (sideC xs l 0)) (p : Nat → Int) (hpl : ∀ k, k < 6 → ∃ n : Int, p k = hueC (sideC xs l k) - 6 * (mx (sideC xs l 0) * n)) (k : Nat) (hk : k < 6) :
    (p ((k + 1) % 6) - p k - l * mx (sideC xs l 0)) % (6 * mx (sideC xs l 0)) = 0 := by
  obtain ⟨a, ha⟩ := hpl k hk
  obtain ⟨b, hb⟩ := hpl ((k + 1) % 6) (Nat.mod_lt _ (by decide))
  obtain ⟨n, hn⟩ := sideC_hue hl hp k hk
  have e : p ((k + 1) % 6) - p k - l * mx (sideC xs l 0) = 6 * mx (sideC xs l 0) * (n - b + a) := by
    rw [ha, hb, hn]
    generalize mx (sideC xs l 0) = D
    rw [Int.mul_assoc, Int.mul_add, Int.mul_sub, Int.mul_add, Int.mul_sub]
    lia
  rw [e]
  exact Int.mul_emod_right _ _
end Mine
end
section
open PySem PySem.W PyProof.Rows PySem.Spec PySem.Calls PySem.Flt
set_option maxRecDepth 100000
namespace Mine
/- two made objects that differ stand at two addresses -/
theorem news_ne {h₀ h : Heap} {L a b : Addr} {Z : List (Addr × Obj)} {o₁ o₂ : Obj} (N : News h₀ L h Z) (h1 : (a, o₁) ∈ Z) (h2 : (b, o₂) ∈ Z) (ho : o₁ ≠ o₂) : a ≠ b := fun e => by
  subst e
  exact ho (Option.some.inj ((N _ h1).1.symm.trans (N _ h2).1))
theorem cell_not_list {o : Obj} {v : Option Value} {c : Value} {its : Array Value} {n : Nat} {sl : Array (Option Value)} {d : Option Addr} (h : o.data = .cell v) : o ≠ ⟨c, d, .seq its n, sl⟩ := fun e => by
  subst e; cases h
theorem cell_not_it {o : Obj} {v : Option Value} {c : Value} {fs : Array Value} {sl : Array (Option Value)} {d : Option Addr} (h : o.data = .cell v) : o ≠ ⟨c, d, .fields fs, sl⟩ := fun e => by
  subst e; cases h
noncomputable abbrev Pulls (Z Z' : List (Addr × Obj)) (x : Addr) : Prop := ∀ a o, (a, o) ∈ Z → a ≠ x → (a, o) ∈ Z'
/- a ledger with one object ahead -/
inductive Pulled (h₀ : Heap) (L : Addr) (h : Heap) (a : Addr) (o : Obj) (Z : List (Addr × Obj)) : Prop
  | mk (Z' : List (Addr × Obj)) (N : News h₀ L h ((a, o) :: Z')) (P : Pulls Z Z' a) (B : Beside a Z') : Pulled h₀ L h a o Z
/- one made object is brought to the front -/
theorem news_pull {h₀ h : Heap} {L a : Addr} {o : Obj} {Z : List (Addr × Obj)} (N : News h₀ L h Z) (hm : (a, o) ∈ Z) :
    Pulled h₀ L h a o Z := by
  refine ⟨Z.filter (fun p => decide (p.1 ≠ a)), fun p hp => ?_, fun x ox hx hne => ?_, ⟨fun p hp => ?_⟩⟩
  · rcases List.mem_cons.mp hp with rfl | hp
    · exact N _ hm
    · exact N _ (List.mem_filter.mp hp).1
  · exact List.mem_filter.mpr ⟨hx, decide_eq_true hne⟩
  · exact of_decide_eq_true (List.mem_filter.mp hp).2
theorem fr_cast {h₀ h : Heap} {L : Addr} {m m' : Str → Option Value} (F : Fr h₀ L h m) (e : ∀ y, m y = m' y) : Fr h₀ L h m' := (funext e : m = m') ▸ F
theorem off1_mem {D : Addr} : ∀ {l : List (Addr × Obj)}, LCg.Off1 D l → ∀ p ∈ l, p.1 ≠ D
  | [], _, _, h => nomatch h
  | _ :: _, x, p, h => by
    rcases List.mem_cons.mp h with rfl | h
    · exact x.1
    · exact off1_mem x.2 p h
theorem allLt_mem {D : Addr} : ∀ {l : List (Addr × Obj)}, AllLt D l → ∀ p ∈ l, p.1 < D
  | [], _, _, h => nomatch h
  | _ :: _, x, p, h => by
    rcases List.mem_cons.mp h with rfl | h
    · exact x.1
    · exact allLt_mem x.2 p h
/- an item of a list of three ints of the ledger -/
theorem item_led3 {prog : Program} {w : World} {A : Around} {E : Value → Shared → Prop} {s : Shared} {h₀ : Heap} {L c : Addr} {news : List (Addr × Obj)} {a b d n : Int} {u1 u2 u3 t : Tok} {nn : Nat} {value slice : PySem.Expr} {Q : Value → Shared → Prop}
    (N : News h₀ L s.heap news) (hl : (c, W.listOf #[.int a u1, .int b u2, .int d u3] nn) ∈ news) (h0 : 0 ≤ n) (h3 : n < 3) (h : ∀ t', Q (.int ([a, b, d].getD n.toNat 0) t') s)
    (hs : subscripted slice false (.ref c) (.int n t) = operate [.ref c, .int n t] (getItem (.ref c) (.int n t)) := by with_unfolding_all rfl)
    (ht : ∀ r, letTemporaryGo value (.ref c) r = pure () := by intro _; with_unfolding_all rfl) :
    wpAny (model prog w) A (subscriptTail value slice (.ref c) (.int n t)) Q E s := by
  have hl' : s.heap.IsList c #[.int a u1, .int b u2, .int d u3] := ⟨_, (N _ hl).1, rfl, nn, rfl⟩
  have go : ∀ x, #[Value.int a u1, .int b u2, .int d u3][n.toNat]? = some x → n < 2 ^ 63 → Q x s → wpAny (model prog w) A (subscriptTail value slice (.ref c) (.int n t)) Q E s := fun x hx hf hq =>
    tail_of_ItemOn ⟨"list", _, slot_list_getitem.lookup, hl'.typeIs, wpAny_getItem_list hl' h0 hf hx hq⟩ hs ht
  obtain ⟨j, rfl⟩ := Int.eq_ofNat_of_zero_le h0
  have hj : j = 0 ∨ j = 1 ∨ j = 2 := by lia
  rcases hj with rfl | rfl | rfl
  · exact go _ rfl (by decide) (h u1)
  · exact go _ rfl (by decide) (h u2)
  · exact go _ rfl (by decide) (h u3)
theorem range_small5 (k : Nat) (hk : 1 ≤ k ∧ k ≤ 5) : Builtin.Range.small 0 (k : Int) 1 = true := by
  have h : k = 1 ∨ k = 2 ∨ k = 3 ∨ k = 4 ∨ k = 5 := by lia
  rcases h with rfl | rfl | rfl | rfl | rfl <;> decide
theorem range_size5 (k : Nat) (hk : 1 ≤ k ∧ k ≤ 5) : Builtin.Range.rangeSize 0 (k : Int) 1 = (k : Int) := by
  have h : k = 1 ∨ k = 2 ∨ k = 3 ∨ k = 4 ∨ k = 5 := by lia
  rcases h with rfl | rfl | rfl | rfl | rfl <;> decide
/- append to a list of the ledger -/
theorem appendZ {prog : Program} {w : World} {A : Around} {E : Value → Shared → Prop} {s : Shared} {h₀ : Heap} {L D : Addr} {m : Str → Option Value} {Z : List (Addr × Obj)} {its : Array Value} {n : Nat} {x : Value} {Q : Value → Shared → Prop}
    (F : Fr h₀ L s.heap m) (N : News h₀ L s.heap Z) (hm : (D, W.listOf its n) ∈ Z) (hsz : its.size ≤ sizeLine)
    (h : ∀ h' Z', Fr h₀ L h' m → News h₀ L h' ((D, W.listOf (its.push x) (n + 1)) :: Z') → (∀ a o, (a, o) ∈ Z → o ≠ W.listOf its n → (a, o) ∈ Z') → Q .none { s with heap := h' }) :
    wpAny (model prog w) A (call (.builtin "list.append") [.ref D, x]) Q E s := by
  obtain ⟨Z', N', P, be⟩ := news_pull N hm
  have z := N (D, _) hm
  refine append_at (hsz := hsz) z.1 fun h' hs hD => h h' Z' (F.change hs z.2.1 z.2.2) (fun p hp => ?_) fun a o ha ho => P a o ha (news_ne N ha hm ho)
  rcases List.mem_cons.mp hp with rfl | hp
  · exact ⟨hD, z.2.1, z.2.2⟩
  · exact ⟨hs.extBut _ _ (be.ne p hp) (N' p (.tail _ hp)).1, (N' p (.tail _ hp)).2⟩
/- a new object of a call comes into the ledger -/
theorem news_add {h₀ h h' : Heap} {L x : Addr} {m : Str → Option Value} {Z : List (Addr × Obj)} {o : Obj} (F : Fr h₀ L h m) (N : News h₀ L h' Z) (hn : h.get? x = none) (ho : h'.get? x = some o) : News h₀ L h' ((x, o) :: Z) := fun p hp => by
  rcases List.mem_cons.mp hp with rfl | hp
  · refine ⟨ho, fun e => ?_, ?_⟩
    · obtain ⟨oL, _, _, hL, _⟩ := F.ns
      have e' : x = L := e
      rw [e', hL] at hn; cases hn
    · cases e : h₀.get? x with
      | none => rfl
      | some o' => rw [F.keep _ _ e] at hn; cases hn
  · exact N p hp
/- a call of _law_less, the new list in the ledger -/
theorem less_use {w : World} {c e : Addr} {r g b x y z : Int} {u1 u2 u3 t1 t2 t3 : Tok} {n1 n2 : Nat}
  {mean : ExcName → Option Value} {mg mb : Str → Option Value} {dp un : Nat} {gd : Option (List Code)} {cn : Str} {cs : Scope} {a : Addr} {ccd : Value} {cl : List (Str × Addr)} {outer : List Env} {A₀ : Around} {base h₀ : Heap} {L : Addr} {m : Str → Option Value} {s : Shared} {Q E : Value → Shared → Prop}
  {news : List (Addr × Obj)}
  (B : Below A₀ base outer h₀) (F : Fr h₀ L s.heap m) (X : Frag.In (hd.heap_39 w.params) h₀) (N : News h₀ L s.heap news) (T : Top V0 loose0 mean mg mb h₀) (hk : cs.kind = .function)
  (hd : dp + 3 < recursionLimit) (hu : un + 8 * 3 < cLine) (hc : (c, W.listOf #[.int r u1, .int g u2, .int b u3] n1) ∈ news) (he : (e, W.listOf #[.int x t1, .int y t2, .int z t3] n2) ∈ news)
  (h : ∀ (v : Addr) (h' : Heap) (tk' : Nat) (p1 p2 p3 : Tok) (k : Nat), Fr h₀ L h' m → News h₀ L h' ((v, W.listOf #[.int (lessI (r - x) (g - y) (b - z)).1 p1, .int (lessI (r - x) (g - y) (b - z)).2.1 p2, .int (lessI (r - x) (g - y) (b - z)).2.2 p3] k) :: news) → Q (.ref v) { s with heap := h', toks := tk' }) :
    wpAny (model P0 w) (ktrTop dp un gd cn cs L a ccd cl outer) (call (.ref 101) [.ref c, .ref e]) Q E s := by
  refine CtrB.use (less_ok w c e r g b x y z u1 u2 u3 t1 t2 t3) B F X N T hk hd hu ⟨⟨_, (N _ hc).1, rfl, n1, rfl⟩, ⟨_, (N _ he).1, rfl, n2, rfl⟩⟩ fun v h' tk' F' N' r' => ?_
  obtain ⟨x', p1, p2, p3, k, rfl, hn, ho⟩ := r'
  exact h x' h' tk' p1 p2 p3 k F' (news_add F N' hn ho)
end Mine
end
section
open PySem PySem.W PyProof.Rows PySem.Spec PySem.Calls
set_option maxRecDepth 100000
namespace Mine
section
variable {prog : Program} {w : World} {A : Around} {E : Value → Shared → Prop} {s : Shared} {h₀ : Heap} {L : Addr} {m : Str → Option Value} {Z : List (Addr × Obj)}
/- a key that gives back its text: what the call makes -/
noncomputable def SameBack (h₀ : Heap) (L : Addr) (m : Str → Option Value) (Z : List (Addr × Obj)) (v : Value) (s₁ : Shared) (r : Value) (s₂ : Shared) : Prop :=
  r = v ∧ ∃ h' tk, s₂ = { s₁ with heap := h', toks := tk } ∧ Fr h₀ L h' m ∧ News h₀ L h' Z
/- the sort of texts by a key that gives back its text -/
theorem sort_id {a kS : Addr} {f : Value} {vs : List Value} {ss : List Str} {P : PySem.Fin → Shared → Prop} {e1 : Nat}
    (F : Fr h₀ L s.heap m) (N : News h₀ L s.heap ((kS, seqObj "list" #[] 0) :: (a, seqObj "list" #[] e1) :: Z)) (hka : kS ≠ a) (hnk : ∀ p ∈ Z, p.1 ≠ kS) (hna : ∀ p ∈ Z, p.1 ≠ a)
    (hS : StrsAre vs ss) (h2 : 2 ≤ vs.length) (h64 : vs.length < 64)
    (turn : ∀ v ∈ vs, ∀ (h : Heap) (tk : Nat) (Y : List (Addr × Obj)), Fr h₀ L h m → News h₀ L h Y →
      wpAny (model prog w) A (call f [v]) (SameBack h₀ L m Y v { s with heap := h, toks := tk }) (fun _ _ => False) { s with heap := h, toks := tk })
    (h : ∀ h' tk (vs' : List Value) (ss' : List Str) c, Fr h₀ L h' m → News h₀ L h' ((a, seqObj "list" vs'.toArray c) :: Z) → StrsAre vs' ss' → ss'.Perm ss → sortedS ss' = true → P (.done (.ret .none)) { s with heap := h', toks := tk }) :
    wpAny (model prog w) A (ksk_rest a f false vs.toArray e1 (.ref kS)) P E s := by
  unfold ksk_rest
  refine wpAny_bind (wpAny_rule ?_)
  rw [List.forIn_toArray]
  refine wpAny_bind (ksk_fold (fun i s' => ∃ h' tk c, s' = { s with heap := h', toks := tk } ∧ Fr h₀ L h' m ∧ News h₀ L h' ((kS, seqObj "list" (vs.take i).toArray c) :: (a, seqObj "list" #[] e1) :: Z)) vs 0 s ⟨s.heap, s.toks, 0, rfl, F, N⟩ ?step ?done)
  case step =>
    rintro j x s' hx ⟨h', tk, c, rfl, F', N'⟩
    simp only [Nat.zero_add] at N' ⊢
    have hj : j < vs.length := (List.getElem?_eq_some_iff.mp hx).1
    refine wpAny_bind (wpAny_attempt (wpAny_mono (turn x (List.mem_of_getElem? hx) h' tk _ F' N') (fun v s'' he => ?_) fun _ _ hF => hF.elim))
    obtain ⟨rfl, g, tk2, rfl, F2, N2⟩ := he
    have nk := N2 _ (.head _)
    have hb := Heap.SameBut.update g kS (Obj.mapSeq (·.push v))
    have hc0 := get?_update_seq nk.1 (·.push v)
    have ek : (vs.take j).toArray.push v = (vs.take (j + 1)).toArray := by
      rw [List.take_add_one, hx, List.push_toArray]; rfl
    have sz : (vs.take j).toArray.size ≤ 64 := by rw [List.size_toArray, List.length_take]; lia
    dsimp only
    refine wpAny_bind (listUpdate_at nk.1 rfl ?_ (by rw [sizeLine_eq]; lia) (Nat.le_trans (Nat.le_of_eq (Array.size_push ..)) (by rw [sizeLine_eq]; lia)))
    dsimp only at hc0
    rw [ek] at hc0
    obtain ⟨c2, hc⟩ : ∃ c2, (g.update kS (Obj.mapSeq (·.push v))).get? kS = some (seqObj "list" (vs.take (j + 1)).toArray c2) := ⟨_, hc0⟩
    refine wpAny_pure ⟨rfl, _, _, c2, rfl, F2.change hb nk.2.1 nk.2.2, fun p hp => ?_⟩
    rcases List.mem_cons.mp hp with rfl | hp
    · exact ⟨hc, nk.2⟩
    · refine ⟨(hb.2 p.1 ?_).trans (N2 p (.tail _ hp)).1, (N2 p (.tail _ hp)).2⟩
      rcases List.mem_cons.mp hp with rfl | hp
      · exact hka.symm
      · exact hnk p hp
  case done =>
    rintro s' ⟨h', tk, c, rfl, F', N'⟩
    rw [Nat.zero_add, List.take_length] at N'
    have nk := N' _ (.head _)
    have na := N' _ (.tail _ (.head _))
    try dsimp only
    refine wpAny_bind (listItems_at nk.1 rfl ?_)
    unfold ksk_end
    try dsimp only
    have h2' : ¬ vs.toArray.size < 2 := by rw [List.size_toArray]; lia
    rw [if_neg Bool.false_ne_true, if_neg h2', if_neg h2', if_neg Bool.false_ne_true]
    obtain ⟨v₁, v₂, rest, rfl⟩ : ∃ v₁ v₂ rest, vs = v₁ :: v₂ :: rest := by
      match vs, h2 with
      | v₁ :: v₂ :: rest, _ => exact ⟨v₁, v₂, rest, rfl⟩
    rw [keyKind_strs hS]
    refine wpAny_bind (wpAny_pure ?_)
    refine wpAny_bind (wpAny_mono (wpS_sortRunsK strKind_oneLt (a₀ := pairsOf (v₁ :: v₂ :: rest)) (st := SortSt.mk' oneType' (pairsOf (v₁ :: v₂ :: rest)) #[] 7 none)
      (Q := fun _ st' => (arrOf st').Perm (pairsOf (v₁ :: v₂ :: rest)) ∧ failedOf st' = none ∧ SortedToK strKind (arrOf st') (pairsOf (v₁ :: v₂ :: rest)).size)
      hS.keysOf ⟨Array.Perm.refl _, rfl, rfl, rfl⟩ (by rw [pairsOf_size]; exact h2) (by rw [pairsOf_size]; exact h64) fun st' a1 a2 a3 => ⟨a1, a2, a3⟩) ?_ fun _ _ e => e)
    rintro ⟨⟨⟩, st'⟩ s' ⟨rfl, hp, hf, hs⟩
    obtain ⟨ss', b1, b2, b3⟩ := sorted_out_str hS hp hs
    have hsz : (arrOf st').size = (v₁ :: v₂ :: rest).length := hp.size_eq.trans (pairsOf_size _)
    unfold ksk_tail
    try dsimp only
    generalize v₁ :: v₂ :: rest = us at *
    have hb := Heap.SameBut.update h' kS (Obj.mapSeq fun _ => (#[] : Array Value))
    have na2 := (hb.2 a hka.symm).trans na.1
    have hb2 := Heap.SameBut.update (h'.update kS (Obj.mapSeq fun _ => (#[] : Array Value))) a (Obj.mapSeq fun _ => (arrOf st').map (·.2))
    have hc0 := get?_update_seq na2 (fun _ => (arrOf st').map (·.2))
    try dsimp only at hc0
    generalize (if ((arrOf st').map (·.2)).size == (#[] : Array Value).size then e1 else e1 + 1) = c9 at hc0
    obtain ⟨c3, hc⟩ : ∃ c3, ((h'.update kS (Obj.mapSeq fun _ => (#[] : Array Value))).update a (Obj.mapSeq fun _ => (arrOf st').map (·.2))).get? a = some (seqObj "list" ((arrOf st').map (·.2)) c3) := ⟨_, hc0⟩
    refine wpAny_bind (listUpdate_at nk.1 rfl ?_ (by rw [List.size_toArray, sizeLine_eq]; lia) (Nat.zero_le _))
    refine wpAny_bind (wpAny_letGo ?_)
    refine wpAny_bind (seqEpoch_at na2 rfl ?_)
    refine wpAny_bind (listUpdate_at na2 rfl ?_ (Nat.zero_le _) (by rw [if_neg Bool.false_ne_true, Array.size_map, hsz, sizeLine_eq]; lia))
    rw [hf]
    simp only [bne_self_eq_false, Bool.false_eq_true, if_false]
    refine wpAny_pure (h _ _ ((arrOf st').map (·.2)).toList ss' c3 ((F'.change hb nk.2.1 nk.2.2).change hb2 na.2.1 na.2.2) (fun p hp => ?_) b1 b2 b3)
    rcases List.mem_cons.mp hp with rfl | hp
    · rw [Array.toArray_toList]; exact ⟨hc, na.2⟩
    · have z := N' p (.tail _ (.tail _ hp))
      exact ⟨((hb2.2 p.1 (hna p hp)).trans (hb.2 p.1 (hnk p hp))).trans z.1, z.2⟩
/- sorted(texts, key=f), f giving back its text -/
theorem sorted_id {l q : Addr} {vs : List Value} {ss : List Str} {Q : Value → Shared → Prop} (F : Fr h₀ L s.heap m) (N : News h₀ L s.heap Z) (hl : s.heap.IsList l vs.toArray)
    (hS : StrsAre vs ss) (h2 : 2 ≤ vs.length) (h64 : vs.length < 64)
    (turn : ∀ v ∈ vs, ∀ (h : Heap) (tk : Nat) (Y : List (Addr × Obj)), Fr h₀ L h m → News h₀ L h Y →
      wpAny (model prog w) A.in1.in1 (call (.ref q) [v]) (SameBack h₀ L m Y v { s with heap := h, toks := tk }) (fun _ _ => False) { s with heap := h, toks := tk })
    (h : ∀ D h' tk (vs' : List Value) (ss' : List Str) c, Fr h₀ L h' m → News h₀ L h' ((D, seqObj "list" vs'.toArray c) :: Z) → (∀ p ∈ Z, p.1 < D) → StrsAre vs' ss' → ss'.Perm ss → sortedS ss' = true → Q (.ref D) { s with heap := h', toks := tk }) :
    wpAny (model prog w) A (call (.builtin "sorted") [.ref l] [(Str.ofString "key", .ref q)]) Q E s := by
  have hLl : L < s.heap.objs.size := F.ns.lt
  have old : ∀ p ∈ Z, p.1 < s.heap.objs.size := fun p hp => Heap.lt_size (N p hp).1
  have fresh : ∀ x, s.heap.objs.size ≤ x → x ≠ L ∧ h₀.get? x = none := fun x hx => ⟨fun e => Nat.not_lt.mpr hx (by rw [show x = L from e]; exact hLl), Heap.get?_none_of_le (Nat.le_trans F.above (Nat.le_trans (Nat.le_of_lt hLl) hx))⟩
  refine call_function_entry_kw kind_sorted plain_sorted entry_sorted (ksk_s1 _ _) ?_
  unfold Builtin.«sorted»
  refine wpAny_bind (m := checkCount "sorted" 1 1 _) (wpAny_pure ?_)
  refine wpAny_bind (collect_list hl ?_ (by rw [sizeLine_eq]; lia))
  refine wpAny_bind (wpAny_newList ?_ (by rw [sizeLine_eq]; lia))
  generalize hg : (s.heap.push (seqObj "list" #[] 0)).update s.heap.objs.size (Obj.mapSeq (· ++ vs.toArray)) = g
  have gsz : g.objs.size = s.heap.objs.size + 1 := by rw [← hg, Heap.size_update, size_push']
  have gold : ∀ b o, s.heap.get? b = some o → g.get? b = some o := fun b o e => by
    have hlt : b < s.heap.objs.size := Heap.lt_size e
    rw [← hg, Heap.get?_update_ne _ _ _ _ (Nat.ne_of_lt hlt), Heap.get?_push_ne _ _ _ (Nat.ne_of_lt hlt)]
    exact e
  have hD := Heap.get?_push_size g (o := seqObj "list" vs.toArray 0) rfl
  generalize hg2 : g.push (seqObj "list" vs.toArray 0) = g2 at hD ⊢
  have g2old : ∀ b o, s.heap.get? b = some o → g2.get? b = some o := fun b o e => by rw [← hg2]; exact Heap.get?_push_of_some _ (gold b o e)
  have g2sz : g2.objs.size = s.heap.objs.size + 2 := by rw [← hg2, size_push', gsz]
  generalize hDe : g.objs.size = D at hD ⊢
  have hDs : s.heap.objs.size < D := by rw [← hDe, gsz]; exact Nat.lt_succ_self _
  have hDn := fresh D (Nat.le_of_lt hDs)
  show wpAny _ _ _ _ _ { s with heap := g2 }
  refine wpAny_bind (wpAny_holding (wpAny_call_entry_kw slot_list_sort ⟨_, hD, rfl⟩ entry_list_sort ?body (ksk_l1 _ _)))
  case body =>
    show wpAny (model prog w) A.in1.in1 (Builtin.«list.sort» ⟨[.ref D], [(Str.ofString "key", .ref q)]⟩) _ _ _
    rw [ksk_t1]
    unfold ksk_tree
    have hb := Heap.SameBut.update g2 D (Obj.mapSeq fun _ => (#[] : Array Value))
    have hc0 := get?_update_seq hD (fun _ => (#[] : Array Value))
    generalize (if ((fun _ => (#[] : Array Value)) vs.toArray).size == vs.toArray.size then 0 else 0 + 1) = e1 at hc0
    have g3sz : (g2.update D (Obj.mapSeq fun _ => (#[] : Array Value))).objs.size = s.heap.objs.size + 2 := by rw [Heap.size_update, g2sz]
    refine wpAny_bind (listItems_at hD rfl ?_)
    refine wpAny_bind (listUpdate_at hD rfl ?_ (by rw [List.size_toArray, sizeLine_eq]; lia) (Nat.zero_le _))
    dsimp only
    generalize g2.update D (Obj.mapSeq fun _ => (#[] : Array Value)) = g3 at *
    refine wpAny_bind (seqEpoch_at hc0 rfl ?_)
    refine wpAny_bind (wpAny_newTuple ?_ (by show vs.length ≤ _; rw [sizeLine_eq]; lia))
    refine wpAny_bind (wpAny_newList ?_ (Nat.zero_le _))
    refine wpAny_holding ?_
    have g4sz : (g3.push (seqObj "tuple" vs.toArray 0)).objs.size = s.heap.objs.size + 3 := by rw [size_push', g3sz]
    have up : ∀ b o, g3.get? b = some o → ((g3.push (seqObj "tuple" vs.toArray 0)).push (seqObj "list" #[] 0)).get? b = some o := fun b o e => Heap.get?_push_of_some _ (Heap.get?_push_of_some _ e)
    have g3old : ∀ b o, s.heap.get? b = some o → g3.get? b = some o := fun b o e => (hb.2 b (fun q => Nat.lt_asymm (Heap.lt_size e) (by rw [show b = D from q]; exact hDs))).trans (g2old b o e)
    refine sort_id (s := { s with heap := (g3.push (seqObj "tuple" vs.toArray 0)).push (seqObj "list" #[] 0) }) (kS := (g3.push (seqObj "tuple" vs.toArray 0)).objs.size) (ss := ss) (Z := Z)
      (F.kept fun b o e => up b o (g3old b o e)) (fun p hp => ?_) ?_ (fun p hp => ?_) (fun p hp => ?_) hS h2 h64 turn fun h' tk vs' ss' c F' N' a1 a2 a3 => ⟨_, rfl, ?_⟩
    · rcases List.mem_cons.mp hp with rfl | hp
      · exact ⟨Heap.get?_push_size _ rfl, fresh _ (by rw [g4sz]; lia)⟩
      rcases List.mem_cons.mp hp with rfl | hp
      · exact ⟨up _ _ hc0, hDn⟩
      · exact ⟨up _ _ (g3old _ _ (N p hp).1), (N p hp).2⟩
    · rw [g4sz, ← hDe, gsz]; exact Nat.ne_of_gt (by lia)
    · rw [g4sz]; exact Nat.ne_of_lt (Nat.lt_of_lt_of_le (old p hp) (by lia))
    · exact Nat.ne_of_lt (Nat.lt_trans (old p hp) hDs)
    · exact wpAny_pure ⟨_, rfl, h D h' tk vs' ss' c F' N' (fun p hp => Nat.lt_trans (old p hp) hDs) a1 a2 a3⟩
end
end Mine
end
section
open PySem PySem.W PyProof.Rows PySem.Spec PySem.Calls
set_option maxRecDepth 100000
namespace Mine
/- the texts of the zones: zone, dress, text, rank in the order of texts -/
noncomputable def tabZ : List (Int × Int × Str × Int) :=
  [(1, 0, Str.ofString "+04:00", 1), (2, 0, Str.ofString "+08:00", 2), (3, 0, Str.ofString "+12:00", 3), (4, 0, Str.ofString "+16:00", 4), (5, 0, Str.ofString "+20:00", 5),
   (1, 1, Str.ofString "-2000", 12), (2, 1, Str.ofString "-1600", 10), (3, 1, Str.ofString "-1200", 8), (4, 1, Str.ofString "-0800", 7), (5, 1, Str.ofString "-0400", 6),
   (1, 2, Str.ofString "4", 19), (2, 2, Str.ofString "8", 20), (3, 2, Str.ofString "12", 16), (4, 2, Str.ofString "16", 17), (5, 2, Str.ofString "20", 18),
   (1, 3, Str.ofString "-20:", 13), (2, 3, Str.ofString "-16:", 11), (3, 3, Str.ofString "-12:", 9), (4, 3, Str.ofString "-8:", 15), (5, 3, Str.ofString "-4:", 14)]
/- the rank of a zone's text -/
noncomputable def rk (k e : Int) : Int :=
  if e = 0 then k else if e = 1 then (if k = 1 then 12 else if k = 2 then 10 else if k = 3 then 8 else if k = 4 then 7 else 6)
  else if e = 2 then (if k = 1 then 19 else if k = 2 then 20 else if k = 3 then 16 else if k = 4 then 17 else 18)
  else (if k = 1 then 13 else if k = 2 then 11 else if k = 3 then 9 else if k = 4 then 15 else 14)
theorem tab_lt : (tabZ.all fun p => tabZ.all fun q => decide (p.2.2.1.cps.toList < q.2.2.1.cps.toList) == decide (p.2.2.2 < q.2.2.2)) = true := by decide +kernel
theorem tab_inj : (tabZ.all fun p => tabZ.all fun q => decide (p.2.2.2 = q.2.2.2) == decide (p.1 = q.1 ∧ p.2.1 = q.2.1)) = true := by decide +kernel
theorem tab_eq : (tabZ.all fun p => tabZ.all fun q => (p.2.2.1 == q.2.2.1) == decide (p.2.2.2 = q.2.2.2)) = true := by decide +kernel
theorem tab_mem (k e : Int) (hk : 1 ≤ k ∧ k ≤ 5) (he : 0 ≤ e ∧ e ≤ 3) : (k, e, zoneS k e, rk k e) ∈ tabZ := by
  have h1 : k = 1 ∨ k = 2 ∨ k = 3 ∨ k = 4 ∨ k = 5 := by lia
  have h2 : e = 0 ∨ e = 1 ∨ e = 2 ∨ e = 3 := by lia
  have go : ∀ i p, tabZ[i]? = some p → p ∈ tabZ := fun i p h => List.mem_of_getElem? h
  rcases h2 with rfl | rfl | rfl | rfl <;> rcases h1 with rfl | rfl | rfl | rfl | rfl
  · rw [zt_10]; exact go 0 _ rfl
  · rw [zt_20]; exact go 1 _ rfl
  · rw [zt_30]; exact go 2 _ rfl
  · rw [zt_40]; exact go 3 _ rfl
  · rw [zt_50]; exact go 4 _ rfl
  · rw [zt_11]; exact go 5 _ rfl
  · rw [zt_21]; exact go 6 _ rfl
  · rw [zt_31]; exact go 7 _ rfl
  · rw [zt_41]; exact go 8 _ rfl
  · rw [zt_51]; exact go 9 _ rfl
  · rw [zt_12]; exact go 10 _ rfl
  · rw [zt_22]; exact go 11 _ rfl
  · rw [zt_32]; exact go 12 _ rfl
  · rw [zt_42]; exact go 13 _ rfl
  · rw [zt_52]; exact go 14 _ rfl
  · rw [zt_13]; exact go 15 _ rfl
  · rw [zt_23]; exact go 16 _ rfl
  · rw [zt_33]; exact go 17 _ rfl
  · rw [zt_43]; exact go 18 _ rfl
  · rw [zt_53]; exact go 19 _ rfl
section
variable {k e k' e' : Int} (hk : 1 ≤ k ∧ k ≤ 5) (he : 0 ≤ e ∧ e ≤ 3) (hk' : 1 ≤ k' ∧ k' ≤ 5) (he' : 0 ≤ e' ∧ e' ≤ 3)
include hk he hk' he'
theorem zone_lt : decide ((zoneS k e).cps.toList < (zoneS k' e').cps.toList) = decide (rk k e < rk k' e') :=
  beq_iff_eq.mp (List.all_eq_true.mp (List.all_eq_true.mp tab_lt _ (tab_mem k e hk he)) _ (tab_mem k' e' hk' he'))
theorem rk_inj (h : rk k e = rk k' e') : k = k' := by
  have := beq_iff_eq.mp (List.all_eq_true.mp (List.all_eq_true.mp tab_inj _ (tab_mem k e hk he)) _ (tab_mem k' e' hk' he'))
  dsimp only at this
  rw [decide_eq_true h] at this
  exact (of_decide_eq_true this.symm).1
theorem zone_eq : (zoneS k e == zoneS k' e') = decide (rk k e = rk k' e') :=
  beq_iff_eq.mp (List.all_eq_true.mp (List.all_eq_true.mp tab_eq _ (tab_mem k e hk he)) _ (tab_mem k' e' hk' he'))
end
section
variable {prog : Program} {w : World} {A : Around} {E : Value → Shared → Prop} {s : Shared} {h₀ : Heap} {L l : Addr} {m : Str → Option Value} {Z : List (Addr × Obj)} {its : Array Value} {e : Int → Int} {u : Nat → Tok}
/- the texts, in the order of the zones -/
noncomputable def TextsAre (e : Int → Int) (u : Nat → Tok) (its : Array Value) : Prop := its.size = 5 ∧ ∀ j, j < 5 → its[j]? = some (.str (zoneS ((j : Int) + 1) (e ((j : Int) + 1))) (u j))
theorem zone_gt_cmp (hT : TextsAre e u its) (he : ∀ k, 1 ≤ k ∧ k ≤ 5 → 0 ≤ e k ∧ e k ≤ 3) :
    CmpOf prog w A .Gt (fun i v => its[i]? = some v) (fun i j => decide (rk ((i : Int) + 1) (e ((i : Int) + 1)) > rk ((j : Int) + 1) (e ((j : Int) + 1)))) := fun i j vi vj s Q E hi hj hq => by
  have lt : ∀ i v, its[i]? = some v → i < 5 := fun i v h => by rw [← hT.1]; exact (Array.getElem?_eq_some_iff.mp h).1
  replace hi : its[i]? = some vi := hi
  replace hj : its[j]? = some vj := hj
  have li := lt i vi hi
  have lj := lt j vj hj
  rw [hT.2 i li] at hi
  rw [hT.2 j lj] at hj
  cases hi
  cases hj
  show wpAny _ _ (compareOp .Gt _ _) _ _ _
  refine P.gt_str ?_
  have := zone_lt (k := (j : Int) + 1) (e := e ((j : Int) + 1)) (k' := (i : Int) + 1) (e' := e ((i : Int) + 1)) (by lia) (he _ (by lia)) (by lia) (he _ (by lia))
  rw [this]
  exact hq
theorem max_zones {Q : Value → Shared → Prop} (hh : A.handled = none) (F : Fr h₀ L s.heap m) (N : News h₀ L s.heap Z) (hl : s.heap.IsList l its) (hT : TextsAre e u its) (he : ∀ k, 1 ≤ k ∧ k ≤ 5 → 0 ≤ e k ∧ e k ≤ 3)
    (h : ∀ (j : Nat) h' tk, j < 5 → (∀ i : Nat, i < 5 → rk ((i : Int) + 1) (e ((i : Int) + 1)) ≤ rk ((j : Int) + 1) (e ((j : Int) + 1))) → Fr h₀ L h' m → News h₀ L h' Z → Q (.str (zoneS ((j : Int) + 1) (e ((j : Int) + 1))) (u j)) { s with heap := h', toks := tk }) :
    wpAny (model prog w) A (call (.builtin "max") [.ref l]) Q E s := by
  have hlt : l < s.heap.objs.size := by obtain ⟨_, e, _⟩ := hl; exact Heap.lt_size e
  refine call_max_walk (wpAny_pyIter_list hl ?_)
  refine ⟨_, _, _, _, _, _, _, rfl, Walks.list (A := A.in1) hh s.heap.objs.size l (Nat.ne_of_lt hlt) its, ⟨⟨_, Heap.get?_push_size _ rfl, rfl, rfl⟩, hl.push _⟩, fun b hb => ?_, by rw [hT.1]; decide, zone_gt_cmp hT he, fun v h' tk hP hk => ?_⟩
  · show b < (s.heap.push _).objs.size
    rw [Heap.size_push]
    rcases List.mem_cons.mp hb with rfl | hb
    · exact Nat.lt_succ_self _
    · rw [List.mem_singleton.mp hb]; exact Nat.lt_succ_of_lt hlt
  · have kp : ∀ b o, s.heap.get? b = some o → h'.get? b = some o := fun b o e => hk b o (fun hm => by rw [List.mem_singleton.mp hm] at e; exact Nat.lt_irrefl _ (Heap.lt_size e)) (Heap.get?_push_of_some _ e)
    obtain ⟨h1, h2⟩ := argBest_gt (fun i => rk ((i : Int) + 1) (e ((i : Int) + 1))) (its.size - 1)
    rw [hT.1] at hP h1 h2
    generalize argBest (fun i j => decide (rk ((i : Int) + 1) (e ((i : Int) + 1)) > rk ((j : Int) + 1) (e ((j : Int) + 1)))) (5 - 1) = b at *
    rw [hT.2 b (by lia)] at hP
    cases hP
    exact h b h' tk (by lia) (fun i hi => h2 i (by lia)) (F.grownK kp) (N.grown kp)
theorem index_zones {Q : Value → Shared → Prop} {j : Nat} {t : Tok} (hl : s.heap.IsList l its) (hT : TextsAre e u its) (he : ∀ k, 1 ≤ k ∧ k ≤ 5 → 0 ≤ e k ∧ e k ≤ 3) (hj : j < 5)
    (h : Q (.int (j : Int) s.toks) { s with toks := s.toks + 1 }) :
    wpAny (model prog w) A (call (.builtin "list.index") [.ref l, .str (zoneS ((j : Int) + 1) (e ((j : Int) + 1))) t]) Q E s := by
  obtain ⟨⟨cls, dd, data, sl⟩, ho, hc, n, hd⟩ := id hl
  simp only at hc hd
  subst hc hd
  have at5 : ∀ i (hi : i < its.size), its[i] = .str (zoneS ((i : Int) + 1) (e ((i : Int) + 1))) (u i) := fun i hi => by
    have h5 : i < 5 := by rw [← hT.1]; exact hi
    have := hT.2 i h5
    rw [Array.getElem?_eq_getElem hi] at this
    exact Option.some.inj this
  let eq : Value → Bool := fun y => match y with | .str a _ => a == zoneS ((j : Int) + 1) (e ((j : Int) + 1)) | _ => false
  refine call_meets PySem.F.slot_list_index ⟨_, ho, rfl⟩ PySem.F.entry_list_index (PySem.F.args_list_index_2 _ _)
    (PySem.SeqAt.list_indexAt l its n dd sl (.str (zoneS ((j : Int) + 1) (e ((j : Int) + 1))) t) eq j (by rw [hT.1]; exact hj) (by lia) ?_ ?_) ⟨ho, fun y hy => ?_, h⟩
  · rw [at5]
    show (zoneS ((j : Int) + 1) (e ((j : Int) + 1)) == zoneS ((j : Int) + 1) (e ((j : Int) + 1))) = true
    rw [zone_eq (by lia) (he _ (by lia)) (by lia) (he _ (by lia))]
    exact decide_eq_true rfl
  · intro i hi hlt
    rw [at5]
    show (zoneS ((i : Int) + 1) (e ((i : Int) + 1)) == zoneS ((j : Int) + 1) (e ((j : Int) + 1))) = false
    rw [zone_eq (by lia) (he _ (by lia)) (by lia) (he _ (by lia))]
    refine decide_eq_false fun hq => ?_
    have := rk_inj (by lia) (he _ (by lia)) (by lia) (he _ (by lia)) hq
    lia
  · obtain ⟨i, hi, rfl⟩ := Array.mem_iff_getElem.mp hy
    rw [at5]
    exact (eqGives_str _ _ _ _).at _ _
end
theorem perm_map_inv {α β : Type} {f : α → β} {l l' : List β} (h : l.Perm l') : ∀ zs : List α, l' = zs.map f → ∃ zs' : List α, zs'.Perm zs ∧ l = zs'.map f := by
  induction h with
  | nil => intro zs hz; cases zs with | nil => exact ⟨[], .nil, rfl⟩ | cons a r => cases hz
  | cons x _ ih =>
    intro zs hz
    cases zs with
    | nil => cases hz
    | cons a r =>
      simp only [List.map_cons, List.cons.injEq] at hz
      obtain ⟨rfl, hz⟩ := hz
      obtain ⟨zs', p, e⟩ := ih r hz
      exact ⟨a :: zs', p.cons a, by rw [e]; rfl⟩
  | swap x y l =>
    intro zs hz
    match zs, hz with
    | a :: b :: r, hz =>
      simp only [List.map_cons, List.cons.injEq] at hz
      obtain ⟨rfl, rfl, rfl⟩ := hz
      exact ⟨b :: a :: r, .swap a b r, rfl⟩
  | trans _ _ ih1 ih2 =>
    intro zs hz
    obtain ⟨zs2, p2, e2⟩ := ih2 zs hz
    obtain ⟨zs1, p1, e1⟩ := ih1 zs2 e2
    exact ⟨zs1, p1.trans p2, e1⟩
/- the zones in the order of their texts: the last has the greatest text -/
theorem zones_sorted {e : Int → Int} (he : ∀ k, 1 ≤ k ∧ k ≤ 5 → 0 ≤ e k ∧ e k ≤ 3) {ss : List Str} (hp : ss.Perm ([1, 2, 3, 4, 5].map fun k => zoneS k (e k))) (hs : sortedS ss = true) :
    ∃ z0 z1 z2 z3 z4 : Int, ss = [zoneS z0 (e z0), zoneS z1 (e z1), zoneS z2 (e z2), zoneS z3 (e z3), zoneS z4 (e z4)] ∧ [z0, z1, z2, z3, z4].Perm [1, 2, 3, 4, 5] ∧ ∀ k, 1 ≤ k ∧ k ≤ 5 → rk k (e k) ≤ rk z4 (e z4) := by
  obtain ⟨zs, p, rfl⟩ := perm_map_inv hp _ rfl
  have hl := p.length_eq
  obtain ⟨z0, z1, z2, z3, z4, rfl⟩ : ∃ z0 z1 z2 z3 z4, zs = [z0, z1, z2, z3, z4] := by
    match zs, hl with
    | [z0, z1, z2, z3, z4], _ => exact ⟨z0, z1, z2, z3, z4, rfl⟩
  refine ⟨z0, z1, z2, z3, z4, rfl, p, ?_⟩
  have hm : ∀ z ∈ [z0, z1, z2, z3, z4], 1 ≤ z ∧ z ≤ 5 := fun z hz => by
    have := p.mem_iff.mp hz
    simp only [List.mem_cons, List.not_mem_nil, or_false] at this
    lia
  have b0 := hm z0 (by simp)
  have b1 := hm z1 (by simp)
  have b2 := hm z2 (by simp)
  have b3 := hm z3 (by simp)
  have b4 := hm z4 (by simp)
  have step : ∀ a b : Int, (1 ≤ a ∧ a ≤ 5) → (1 ≤ b ∧ b ≤ 5) → ltCps (zoneS b (e b)).cps.toList (zoneS a (e a)).cps.toList = false → rk a (e a) ≤ rk b (e b) := fun a b ha hb h => by
    rw [ltCps_eq] at h
    have := zone_lt hb (he b hb) ha (he a ha)
    rw [h] at this
    have := of_decide_eq_false this.symm
    lia
  have hs' : (!ltCps (zoneS z1 (e z1)).cps.toList (zoneS z0 (e z0)).cps.toList && (!ltCps (zoneS z2 (e z2)).cps.toList (zoneS z1 (e z1)).cps.toList && (!ltCps (zoneS z3 (e z3)).cps.toList (zoneS z2 (e z2)).cps.toList && (!ltCps (zoneS z4 (e z4)).cps.toList (zoneS z3 (e z3)).cps.toList && true)))) = true := hs
  simp only [Bool.and_eq_true, Bool.not_eq_true', and_true] at hs'
  obtain ⟨c1, c2, c3, c4⟩ := hs'
  have d1 := step _ _ b0 b1 c1
  have d2 := step _ _ b1 b2 c2
  have d3 := step _ _ b2 b3 c3
  have d4 := step _ _ b3 b4 c4
  intro k hk
  have : k ∈ [z0, z1, z2, z3, z4] := p.mem_iff.mpr (by simp only [List.mem_cons, List.not_mem_nil, or_false]; lia)
  simp only [List.mem_cons, List.not_mem_nil, or_false] at this
  rcases this with rfl | rfl | rfl | rfl | rfl <;> lia
end Mine
end
section
open PySem PySem.W PyProof.Rows PySem.Spec PySem.Calls PySem.Flt
set_option maxRecDepth 100000
set_option maxHeartbeats 2000000
namespace Mine
open Sem (wp)
noncomputable abbrev baOf (arr : Array UInt8) : Obj := { cls := .type "bytearray", data := .bytearray arr }
theorem ba_slot_setitem : Slot "bytearray" "__setitem__" "bytearray.__setitem__" :=
  .of (owner := "bytearray") (n := "__setitem__") (by rw [typeLookup_type, builtinLookup_eq_fast]; kernel_rfl) (by decide +kernel) (by decide +kernel) (by decide +kernel)
    (by first | exact .inl (by decide +kernel) | exact .inr (by decide +kernel)) (by rw [isSubtype_type]; kernel_rfl)
theorem ba_entry_setitem : entryFor table "bytearray.__setitem__" = some Builtin.«bytearray.__setitem__» := entryFor_of_tree (by kernel_rfl)
theorem ba_args3 (a b c : Value) : argsOk "bytearray.__setitem__" ⟨[a, b, c], []⟩ := by kernel_rfl
theorem ba_no_bytes : typeLookup (.type "bytearray") "__bytes__" = pure none := by rw [typeLookup_type, builtinLookup_eq_fast]; kernel_rfl
theorem ba_no_index : typeLookup (.type "bytearray") "__index__" = pure none := by rw [typeLookup_type, builtinLookup_eq_fast]; kernel_rfl
theorem ba_buffer : typeLookup (.type "bytearray") "__buffer__" = pure (some (.builtin "bytearray.__buffer__")) := by rw [typeLookup_type, builtinLookup_eq_fast]; kernel_rfl
section
variable {prog : Program} {w : World} {A : Around} {s : Shared} {E : Value → Shared → Prop} {h₀ : Heap} {L D : Addr} {m : Str → Option Value} {news news' : List (Addr × Obj)}
theorem setItem_ba {arr arr' : Array UInt8} {k b : Int} {t u : Tok} {Q : Unit → Shared → Prop} (F : Fr h₀ L s.heap m) (N : News h₀ L s.heap news)
    (hk : 0 ≤ k ∧ k < 3) (hka : k < arr.size) (hz : arr.size ≤ 3) (hb : 0 ≤ b ∧ b < 256) (he : arr.setIfInBounds k.toNat b.toNat.toUInt8 = arr') (U : Upd D (baOf arr) (baOf arr') news news')
    (h : ∀ h', Fr h₀ L h' m → News h₀ L h' news' → Q () { s with heap := h' }) : wpAny (model prog w) A (setItem (.ref D) (.int k t) (.int b u)) Q E s := by
  obtain ⟨pre, post, rfl, rfl, ha, hp⟩ := U.split
  have z := N (D, baOf arr) (List.mem_append.mpr (.inr (.head _)))
  have hD : s.heap.get? D = some (baOf arr) := z.1
  have hT : s.TypeIs (.ref D) "bytearray" := ⟨_, hD, rfl⟩
  unfold setItem
  refine wpAny_holding ?_
  refine wpAny_bind (wpAny_sequenceKey hT (by decide) ?_)
  refine wpAny_bind (wpAny_callSpecial?_slot (name := Str.ofString "__setitem__") hT ba_slot_setitem
    (wpAny_call_entry ba_slot_setitem hT ba_entry_setitem ?_ (ba_args3 _ _ _)))
  unfold Builtin.«bytearray.__setitem__»
  refine bm_if_false rfl ?_
  refine wpAny_bind (wpAny_of_eq (a := some k) ?_ ?_)
  · show (if (!Builtin.Bytes.fitsIndex k) = true then _ else _) = _
    have hf : Builtin.Bytes.fitsIndex k = true := by
      have : (-(2 ^ 63 : Int) ≤ k) ∧ (k < 2 ^ 63) := by omega
      simp [Builtin.Bytes.fitsIndex]; omega
    rw [hf]; rfl
  dsimp only
  refine wpAny_bind (wpAny_of_eq (a := b.toNat.toUInt8) ?_ ?_)
  · show (if (decide (b < 0) || decide (b ≥ 256)) = true then _ else _) = _
    rw [if_neg (by simp; omega)]; try rfl
  refine wpAny_bind ?_
  unfold Builtin.Bytes.payload Builtin.Bytes.payload?
  refine wpAny_bind (wpAny_bind (wpAny_load hD (wpAny_pure ?_)))
  dsimp only
  refine wpAny_pure ?_
  have hs : seqIndex? k arr.size = some k.toNat := by
    unfold seqIndex?
    rw [if_neg (by omega : ¬ k < 0), if_pos (by simp; omega)]
  rw [hs]
  dsimp only
  refine wpAny_bind ?_
  show wpAny _ _ (updateBytearray D (·.setIfInBounds k.toNat b.toNat.toUInt8)) _ _ _
  unfold updateBytearray
  refine wpAny_bind (wpAny_load hD ?_)
  show wpAny _ _ (update D (Obj.mapBytearray (·.setIfInBounds k.toNat b.toNat.toUInt8)) >>= fun _ => lookBehind D) _ _ _
  refine wpAny_bind (wpAny_update hD ?_)
  have hS₂ : (s.heap.update D (Obj.mapBytearray (·.setIfInBounds k.toNat b.toNat.toUInt8))).get? D = some (baOf arr') := by
    rw [← he]; exact Heap.get?_update_self (Obj.mapBytearray (·.setIfInBounds k.toNat b.toNat.toUInt8)) hD rfl
  refine wpAny_lookBehind hS₂ ?_ ?_
  · show (if arr'.size > sizeLine then some "bytearray:memory" else none) = none
    rw [if_neg]
    rw [← he, Array.size_setIfInBounds]
    unfold sizeLine; omega
  · refine wpAny_bind (wpAny_pure (wpAny_pure ⟨_, rfl, wpAny_pure (h _ (F.change (Heap.SameBut.update ..) z.2.1 z.2.2) ?_)⟩))
    exact news_set N ha hp (Heap.SameBut.update ..) hS₂
theorem ba_bytes_new {arr : Array UInt8} {Q : Value → Shared → Prop} (hD : s.heap.get? D = some (baOf arr)) (hz : arr.size ≤ sizeLine)
    (hQ : ∀ t k, Q (.bytes arr t) { s with toks := k }) : codeAny (model prog w) A (.call (.builtin "bytes.__new__") ⟨[.type "bytes", .ref D], []⟩) (wants Q E) s := by
  refine codeAny_of_tree ?_
  show wpAny _ A.in1 (do checkBuiltinCall "bytes.__new__" ⟨[.type "bytes", .ref D], []⟩; again (.builtin "bytes.__new__" ⟨[.type "bytes", .ref D], []⟩)) _ _ s
  refine wpAny_bind (wpAny_of_eq (F.bm_newCall _) (wpAny_pure ⟨plainId_quiet F.bm_plain _, codeAny_builtin F.bm_entry ?_⟩))
  rw [Around.under_plainId F.bm_plain _]
  have hT : s.TypeIs (.ref D) "bytearray" := ⟨_, hD, rfl⟩
  unfold Builtin.«bytes.__new__»
  refine wpAny_bind (wpAny_of_eq (a := true) rfl ?_)
  refine bm_if_false rfl ?_
  refine wpAny_bind (wpAny_of_eq F.bm_sub ?_)
  refine bm_if_false rfl ?_
  refine wpAny_bind (wpAny_of_eq (F.bm_bind _) ?_)
  refine wpAny_bind (wpAny_of_eq (a := ()) rfl ?_)
  refine wpAny_bind (wpAny_of_eq (a := ()) rfl ?_)
  refine bm_if_false rfl ?_
  refine wpAny_bind (wpAny_specialOf hT ba_no_bytes ?_)
  refine wpAny_bind (wpAny_bind ?_)
  show wpAny _ _ (load D >>= _) _ _ _
  refine wpAny_bind (wpAny_load hD ?_)
  refine wpAny_pure (wpAny_pure ?_)
  refine bm_if_false rfl ?_
  refine wpAny_bind (wpAny_specialOf hT ba_no_index ?_)
  refine bm_if_true rfl ?_
  first
    | show wpAny _ _ (Builtin.Bytes.buffer? "bytes.__new__" (.ref D) true >>= _) _ _ _
    | (refine wpAny_bind ?_; show wpAny _ _ (Builtin.Bytes.buffer? "bytes.__new__" (.ref D) true >>= _) _ _ _)
  refine wpAny_bind ?_
  unfold Builtin.Bytes.buffer?
  refine wpAny_bind (wpAny_specialOf hT ba_buffer ?_)
  dsimp only
  unfold Builtin.Bytes.slotIsOwn
  refine wpAny_bind (wpAny_bind (wpAny_specialOf hT ba_buffer ?_))
  dsimp only
  refine bm_if_false (by decide +kernel) ?_
  rw [show "bytearray.__buffer__".dropRight ("__buffer__".length + 1) = "bytearray" by decide +kernel]
  refine wpAny_isInstance hT ba_sub ?_
  refine bm_if_false rfl ?_
  refine wpAny_bind (wpAny_specialOf hT ba_buffer ?_)
  unfold Builtin.Bytes.ownRelease Builtin.Bytes.slotIsOwn
  refine wpAny_bind (wpAny_bind (wpAny_bind (wpAny_specialOf hT ba_no_release ?_)))
  dsimp only
  refine bm_if_false (by decide +kernel) ?_
  rw [show "bytearray.__release_buffer__".dropRight ("__release_buffer__".length + 1) = "bytearray" by decide +kernel]
  refine wpAny_isInstance hT ba_sub (wpAny_pure ?_)
  refine bm_if_false rfl ?_
  refine wpAny_bind ?_
  unfold Builtin.Bytes.payload Builtin.Bytes.payload?
  refine wpAny_bind (wpAny_bind (wpAny_load hD (wpAny_pure ?_)))
  dsimp only
  refine wpAny_pure (wpAny_pure ?_)
  dsimp only
  first
    | refine wpAny_bind (wpAny_rule ?_)
    | skip
  refine wpAny_bind (wpAny_mkBytes ?_ hz)
  show wpAny _ _ (if (Value.type "bytes" == Value.type "bytes") = true then _ else _) _ _ _
  refine bm_if_true (by decide) ?_
  first
    | exact wpAny_pure (hQ _ _)
    | exact wpAny_bind (wpAny_pure (wpAny_pure (hQ _ _)))
theorem call_bytes_ba {arr : Array UInt8} {Q : Value → Shared → Prop} (hD : s.heap.get? D = some (baOf arr)) (hz : arr.size ≤ sizeLine)
    (hQ : ∀ t k, Q (.bytes arr t) { s with toks := k }) : wpAny (model prog w) A (call (.type "bytes") [.ref D]) Q E s := by
  refine callType_codes (Q₁ := fun obj s₁ => s₁.TypeIs obj "bytes" ∧ Q obj s₁) F.bm_called (F.bm_typeCall _) F.entry_object_init
    (ba_bytes_new hD hz fun t k => ⟨PySem.W.typeIs_bytes _ _ _, hQ t k⟩) fun obj s₁ h₁ => ?_
  exact ⟨h₁.1, F.args_object_init_2 obj _, object_init_meets F.bm_called.init.lookup F.bm_called.made (by decide) prog w A.in1 _ s₁ ⟨h₁.1, rfl, h₁.2⟩⟩
end
end Mine
end
section
open PySem PySem.W PyProof.Rows PySem.Spec PySem.Calls PySem.Flt
set_option maxRecDepth 100000
set_option maxHeartbeats 0
namespace Mine
theorem pad_of_O1 : True := by
  w_top off
  trivial
theorem fillo1 : (hd.heap_39 = hd.heap_39) ∧ (PySem.Challenge.rw_zo0002_01 = PySem.Challenge.rw_zo0002_01) := by
  k_fill
  exact ⟨rfl, rfl⟩

section
variable {M : Model} {A : Around} {s : Shared} {env : Env}
theorem N_callType1 {pos : Pos} {T : String} {e : PySem.Expr} {rest : List PySem.Expr} {Q : Value → Shared → Prop}
    (h : wpAny M A (spliced (backTo pos (starEach (e :: rest) env))) (fun vs s₁ => wpN M A (call (.type T) vs) Q s₁) noE s)
    (he : starEach (e :: rest) env = (false, eval e env) :: starEach rest env := by rfl)
    (hplain : (backTo pos (starEach rest env)).any (·.1) = false := by rfl) :
    wpN M A (callWith pos (.type T) [] (backTo pos (starEach (e :: rest) env)) []) Q s := by
  rw [he] at h ⊢
  exact N_callWith_type (by show (false || (backTo pos (starEach rest env)).any (·.1)) = false; rw [hplain]; rfl) (Calls.evalArgs_plain h)
theorem N_callDef1 {pos : Pos} {a : Addr} {o : Obj} {fd : FuncData} {e : PySem.Expr} {rest : List PySem.Expr} {Q : Value → Shared → Prop}
    (h : wpAny M A (spliced (backTo pos (starEach (e :: rest) env))) (fun vs s₁ => (s₁.heap.get? a = some o ∧ o.data = .func fd) ∧ wpN M A (call (.ref a) vs) Q s₁) noE s)
    (he : starEach (e :: rest) env = (false, eval e env) :: starEach rest env := by rfl) :
    wpN M A (callWith pos (.ref a) [] (backTo pos (starEach (e :: rest) env)) []) Q s := by
  rw [he] at h ⊢
  exact N_callWith_function (Calls.evalArgs_plain h)
end
theorem u8_lt (b : UInt8) : (0 : Int) ≤ (b.toNat : Int) ∧ (b.toNat : Int) < 256 := by have := b.toNat_lt; omega
theorem u8_back (b : UInt8) : ((b.toNat : Int)).toNat.toUInt8 = b := by simp
theorem bytearray_K {prog : Program} {w : World} {A : Around} {s : Shared} {h₀ : Heap} {L : Addr} {m : Str → Option Value} {news : List (Addr × Obj)} {n : Int} {t : Tok} {Q : Value → Shared → Prop} {arr : Array UInt8}
    (F : Fr h₀ L s.heap m) (N : News h₀ L s.heap news) (hn : n = 2 ∨ n = 3) (harr : Array.replicate n.toNat 0 = arr)
    (h : ∀ x h', Fr h₀ L h' m → News h₀ L h' ((x, { cls := .type "bytearray", data := .bytearray arr }) :: news) → (∀ q ∈ news, q.1 < x) → Q (.ref x) { s with heap := h' }) :
    wpN (model prog w) A (call (.type "bytearray") [.int n t]) Q s := by
  subst harr
  refine bytearray_N hn fun h' hg kp => h _ h' (F.grownK kp) ?_ fun q hq => Heap.lt_size (N q hq).1
  intro q hq
  rcases List.mem_cons.mp hq with rfl | hq
  · refine ⟨hg, Nat.ne_of_gt F.ns.lt, ?_⟩
    cases e : h₀.get? s.heap.objs.size with
    | none => rfl
    | some o => exact absurd (Heap.lt_size (F.keep _ _ e)) (Nat.lt_irrefl _)
  · exact N.grown kp q hq
theorem call_bytes_baK {prog : Program} {w : World} {A : Around} {s : Shared} {E : Value → Shared → Prop} {h₀ : Heap} {L D : Addr} {news : List (Addr × Obj)} {arr : Array UInt8} {Q : Value → Shared → Prop}
    (N : News h₀ L s.heap news) (hm : (D, baOf arr) ∈ news) (hz : arr.size ≤ 3) (hQ : ∀ t k, Q (.bytes arr t) { s with toks := k }) : wpAny (model prog w) A (call (.type "bytes") [.ref D]) Q E s :=
  call_bytes_ba (N _ hm).1 (Nat.le_trans hz (by decide)) hQ
/- an iterator of a range with a step -/
noncomputable abbrev rItS (x left st : Int) : Obj := { cls := .type "range_iterator", data := .fields #[rawInt x, rawInt left, rawInt st] }
section
variable {prog : Program} {w : World} {A : Around} {E : Value → Shared → Prop} {s : Shared} {h₀ : Heap} {L I : Addr} {m : Str → Option Value} {news pre post : List (Addr × Obj)}
theorem iter_S {r : Addr} {a b c n : Int} {t u v : Tok} {Q : Value → Shared → Prop} (hr : IsRange s.heap r a b c t u v) (hsmall : Builtin.Range.small a b c = true) (hn : Builtin.Range.rangeSize a b c = n) (F : Fr h₀ L s.heap m) (N : News h₀ L s.heap news)
    (h : ∀ I h', Fr h₀ L h' m → News h₀ L h' ((I, rItS a n c) :: news) → (∀ q ∈ news, q.1 < I) → Q (.ref I) { s with heap := h' }) : wpAny (model prog w) A (pyIter (.ref r)) Q E s := by
  subst hn
  refine wpAny_pyIter_range hr hsmall ?_
  have kp : ∀ b' o, s.heap.get? b' = some o → (s.heap.push (rItS a (Builtin.Range.rangeSize a b c) c)).get? b' = some o := fun b' o e => Heap.get?_push_of_some _ e
  refine h _ _ (F.grownK kp) (fun q hq => ?_) fun q hq => Heap.lt_size (N q hq).1
  rcases List.mem_cons.mp hq with rfl | hq
  · refine ⟨Heap.get?_push_size _ rfl, Nat.ne_of_gt F.ns.lt, ?_⟩
    cases e : h₀.get? s.heap.objs.size with
    | none => rfl
    | some o => exact absurd (Heap.lt_size (F.keep _ _ e)) (Nat.lt_irrefl _)
  · exact N.grown kp q hq
theorem next_S {x left c : Int} {Q : Option Value → Shared → Prop} (F : Fr h₀ L s.heap m) (N : News h₀ L s.heap (pre ++ (I, rItS x left c) :: post)) (hl : 0 < left) (ha : ∀ p ∈ pre, p.1 ≠ I) (hp : ∀ p ∈ post, p.1 ≠ I)
    (h : ∀ h' t tk, Fr h₀ L h' m → News h₀ L h' (pre ++ (I, rItS (x + c) (left - 1) c) :: post) → Q (some (.int x t)) { s with heap := h', toks := tk }) : wpAny (model prog w) A (pyNext (.ref I)) Q E s := by
  have z := N (I, rItS x left c) (List.mem_append.mpr (.inr (.head _)))
  refine wpAny_pyNext_range_item (it := I) (x := x) (left := left) (step := c) z.1 hl fun h' hit hs => ?_
  exact h h' _ _ (F.change hs z.2.1 z.2.2) (news_set N ha hp hs hit)
theorem end_S {x left c : Int} {Q : Option Value → Shared → Prop} (hh : A.handled = none) (F : Fr h₀ L s.heap m) (N : News h₀ L s.heap (pre ++ (I, rItS x left c) :: post)) (hl : left ≤ 0) (ha : ∀ p ∈ pre ++ post, p.1 ≠ I)
    (h : ∀ h', Fr h₀ L h' m → News h₀ L h' (pre ++ post) → Q none { s with heap := h' }) : wpAny (model prog w) A (pyNext (.ref I)) Q E s := by
  have z := N (I, rItS x left c) (List.mem_append.mpr (.inr (.head _)))
  refine wpAny_pyNext_range_end hh (it := I) (x := x) (left := left) (step := c) z.1 hl fun h' hs => ?_
  refine h h' ?_ fun p hp => ?_
  · obtain ⟨oL, a1, a2, hoL, a3⟩ := F.ns
    exact ⟨⟨oL, a1, a2, hs L oL (Ne.symm z.2.1) hoL, a3⟩, fun b o e => hs b o (fun q => by rw [q] at e; rw [z.2.2] at e; cases e) (F.keep b o e), F.above⟩
  · have hp' : p ∈ pre ++ (I, rItS x left c) :: post := by
      rcases List.mem_append.mp hp with q | q
      · exact List.mem_append.mpr (.inl q)
      · exact List.mem_append.mpr (.inr (.tail _ q))
    exact ⟨hs _ _ (ha p hp) (N p hp').1, (N p hp').2⟩
end
/- the octets that are put so far -/
noncomputable def part (x : List UInt8) (j : Nat) : Array UInt8 := ((List.range x.length).map fun p => if x.length - 1 - p < j then x.getD (x.length - 1 - p) 0 else 0).toArray
theorem eq_range {α : Type} {l : List α} {n : Nat} {F : Nat → α} (hl : l.length = n) (h : ∀ i, i < n → l[i]? = some (F i)) : l = (List.range n).map F := by
  subst hl
  refine List.ext_getElem? fun i => ?_
  rw [List.getElem?_map]
  by_cases hi : i < l.length
  · rw [List.getElem?_range hi, h i hi]; rfl
  · rw [List.getElem?_eq_none (Nat.le_of_not_lt hi), List.getElem?_eq_none (by rw [List.length_range]; exact Nat.le_of_not_lt hi)]; rfl
theorem list_of {α : Type} {l : List α} {n : Nat} (d : α) (hl : l.length = n) : ∃ F : Nat → α, l = (List.range n).map F :=
  ⟨fun i => l.getD i d, eq_range hl fun i hi => by rw [List.getD_eq_getElem?_getD, List.getElem?_eq_getElem (hl ▸ hi)]; rfl⟩
theorem part_set {x : List UInt8} {k j : Nat} (hk : k = 2 ∨ k = 3) (hx : x.length = k) (hj : j < k) : (part x j).setIfInBounds (k - 1 - j) (x.getD j 0) = part x (j + 1) := by
  obtain ⟨F, rfl⟩ := list_of 0 hx
  rcases hk with rfl | rfl
  · match j, hj with
    | 0, _ => rfl
    | 1, _ => rfl
  · match j, hj with
    | 0, _ => rfl
    | 1, _ => rfl
    | 2, _ => rfl
theorem part_size (x : List UInt8) (j : Nat) : (part x j).size = x.length := by unfold part; rw [List.size_toArray, List.length_map, List.length_range]
/- a turn of the inner loop -/
inductive SwS (x : List UInt8) (k : Nat) (D I1 I2 L : Addr) (t1 t2 : Tok) (s : Shared) (j : Nat) : Shared → Prop
  | mk (h : Heap) (tk : Nat) (m : Str → Option Value) (u : Tok) (a l : Int) (F : Fr s.heap L h m) (f1 : m (Str.ofString "data") = some (.bytes x.toArray t1)) (f2 : m (Str.ofString "width") = some (.int (k : Int) t2)) (f3 : m (Str.ofString "swapped_data") = some (.ref D)) (f4 : m (Str.ofString "i") = some (.int 0 u))
    (ea : a = (j : Int)) (el : l = (k : Int) - (j : Int)) (N : News s.heap L h [(I2, rItS a l 1), (I1, rItS (0 + (k : Int)) (1 - 1) k), (D, baOf (part x j))]) : SwS x k D I1 I2 L t1 t2 s j { s with heap := h, toks := tk }
local macro_rules | `(tactic| walk_at "V") => `(tactic| first | with_reducible assumption | (refine (if_neg (by decide)).trans ?_; walk_at "V") | rfl)
local macro_rules | `(tactic| walk_at $k:str) => tbl [("eval Name", false, [(``nameX_L, "A V ? R R")])] k
set_option maxHeartbeats 400000 in
theorem swapN (w : World) (x : List UInt8) (k : Nat) (hk : k = 2 ∨ k = 3) (hx : x.length = k) (t1 t2 : Tok) :
    CtrN w 2 79 [.bytes x.toArray t1, .int (k : Int) t2] (fun _ => True) (fun h h' v => ∃ t, v = .bytes (part x k) t) := by
  refine' CtrN.body [(Str.ofString "data", .bytes x.toArray t1), (Str.ofString "width", .int k t2)] ?k6 ?k7 ?k9 ?kB (by decide) ?c2 ?c3 ?c4 ?c5 ?_
  case k6 => k_is
  case k7 => k_is
  case k9 => intro _; exact BindsTo.of_eq rfl
  case kB => exact locs rfl
  case c2 => exact rfl
  case c3 => exact rfl
  case c4 => exact rfl
  case c5 => decide
  intro κ mean mg mb base s L' h' tk' Q hdp hu hc F' B' X' T' hret
  have N' : News s.heap L' h' [] := fun _ h => nomatch h
  (try dsimp only)
  refine N_cons (N_Assign (N_CallName ?_))
  k_steps
  refine N_callType1 ?_
  k_steps
  refine bytearray_K (arr := part x 0) (by k_asm) (by k_asm) (by rw [List.size_toArray, hx]; rcases hk with rfl | rfl; (exact .inl rfl); (exact .inr rfl)) ?hr ?_
  case hr =>
    unfold part
    rw [List.size_toArray, hx]
    rcases hk with rfl | rfl <;> rfl
  intro D h1 F1 N1 l1
  clear l1
  k_steps
  rename Fr s.heap _ _ _ => F9
  rename News s.heap _ _ _ => N9
  obtain ⟨m1, F2, f1, f2, f3⟩ : ∃ m1 : Str → Option Value, Fr s.heap L' _ m1 ∧ m1 (Str.ofString "data") = some (.bytes x.toArray t1) ∧ m1 (Str.ofString "width") = some (.int (k : Int) t2) ∧ m1 (Str.ofString "swapped_data") = some (.ref D) := ⟨_, F9, rfl, rfl, rfl⟩
  clear F9
  have hk0 : (k : Int) ≠ 0 := by rcases hk with rfl | rfl <;> decide
  have hk3 : k ≤ 3 := by rcases hk with rfl | rfl <;> decide
  have hx3 : x.length ≤ 3 := by rw [hx]; rcases hk with rfl | rfl <;> decide
  have hp0 : Builtin.divisionGoesByPylong ((x.toArray.size : Int) - 0) (k : Int) = false := by rcases hk with rfl | rfl <;> exact PyProof.noPylong_of_log2 (by decide +kernel)
  have hsm0 : Builtin.Range.small 0 (x.toArray.size : Int) (k : Int) = true := by rw [List.size_toArray, hx]; rcases hk with rfl | rfl <;> decide
  have hrs0 : Builtin.Range.rangeSize 0 (x.toArray.size : Int) (k : Int) = 1 := by rw [List.size_toArray, hx]; rcases hk with rfl | rfl <;> decide
  have hsm1 : Builtin.Range.small 0 (k : Int) 1 = true := by rcases hk with rfl | rfl <;> decide
  have hrs1 : Builtin.Range.rangeSize 0 (k : Int) 1 = (k : Int) := by rcases hk with rfl | rfl <;> decide
  refine N_cons (N_For ?_)
  k_steps
  refine iter_S (by assumption) hsm0 hrs0 (by k_asm) (by k_asm) ?_
  intro I1 h2 F3 N3 l1
  have n1 : D ≠ I1 := Nat.ne_of_lt (l1 _ (.head _))
  clear l1 hsm0 hrs0 hp0 hk0
  refine N_loop ?_
  refine next_S (pre := []) F3 N3 (by decide) (fun _ h => nomatch h) (fun p hp => by rw [List.mem_singleton.mp hp]; exact n1) ?_
  intro h3 t3 tk3 F4 N4
  refine wpAny_of_eq rfl ?_
  clear F3 N3
  k_steps
  refine N_cons (N_For ?_)
  k_steps
  refine iter_S (by assumption) hsm1 hrs1 (by k_asm) (by k_asm) ?_
  intro I2 h5 F5 N5 l2
  have n2 : I1 ≠ I2 := Nat.ne_of_lt (l2 _ (.head _))
  have n3 : D ≠ I2 := Nat.ne_of_lt (l2 _ (.tail _ (.head _)))
  clear l2
  refine N_turns k (fun j s' => SwS x k D I1 I2 L' t1 t2 s j s') ?turn ?fin k 0 _ rfl (Nat.zero_le _) ?init
  case init =>
    exact ⟨_, _, _, _, 0, _, F5, (if_neg (by decide)).trans f1, (if_neg (by decide)).trans f2, (if_neg (by decide)).trans f3, if_pos rfl, rfl, (Int.sub_zero _).symm, N5⟩
  case turn =>
    clear f1 f2 f3 F5 N5 hret
    rintro i hi s' ⟨h, tk, m, u, a, l, F, f1, f2, f3, f4, ea, el, N⟩ Q' hQ'
    subst ea el
    have e1 : ((0 : Int) + k - 1 - i).toNat = k - 1 - i := by rw [Int.zero_add, Int.sub_sub]; exact (Int.toNat_sub k (1 + i)).trans (Nat.sub_sub k 1 i).symm
    have e2 : ((0 : Int) + i).toNat = i := by rw [Int.zero_add]; rfl
    have e3 : (0 : Int) ≤ 0 + k - 1 - i ∧ (0 : Int) + k - 1 - i < 3 := by clear hk hx hx3 hsm1 hrs1; lia
    have e4 : (0 : Int) + k - 1 - i < (x.length : Int) := by rw [hx]; clear hk hx hx3 hk3 hsm1 hrs1; lia
    have e5 : (0 : Int) < (k : Int) - i := by clear hx hx3 hk hk3 hsm1 hrs1; lia
    refine next_S (pre := []) F N e5 (fun _ h => nomatch h) (fun p hp => ?_) ?_
    · rcases List.mem_cons.mp hp with rfl | hp
      · exact n2
      · rw [List.mem_singleton.mp hp]; exact n3
    intro h3 t3 tk3 F4 N4
    clear F N
    refine ⟨_, rfl, wpAny_of_eq rfl ?_⟩
    k_steps
    refine N_cons (N_of ?_)
    k_steps
    rename Fr s.heap _ _ _ => F8
    rename News s.heap _ _ _ => N8
    refine setItem_ba (arr := part x i) (arr' := part x (i + 1)) (news' := [(I2, rItS ((i : Int) + 1) ((k : Int) - (i : Int) - 1) 1), (I1, rItS (0 + (k : Int)) (1 - 1) k), (D, baOf (part x (i + 1)))]) F8 N8 e3 (by rw [part_size]; exact e4) (by rw [part_size]; exact hx3) (u8_lt _) ?he (.tail n3.symm (.tail n1.symm (.head (fun _ h => nomatch h)))) ?_
    case he =>
      rw [u8_back, e1, e2]
      exact part_set hk hx hi
    intro h9 F9 N9
    clear F8 N8
    k_steps
    refine N_nil ?_
    exact hQ' _ ⟨_, _, _, _, _, _, F9, (if_neg (by decide)).trans f1, (if_neg (by decide)).trans f2, (if_neg (by decide)).trans f3, (if_neg (by decide)).trans f4, rfl, by rw [Int.natCast_add, Int.sub_sub]; rfl, N9⟩
  case fin =>
    clear f1 f2 f3 F5 N5
    rintro s' ⟨h, tk, m, u, a, l, F, f1, f2, f3, f4, ea, el, N⟩
    refine end_S (pre := []) rfl F N (by rw [el, Int.sub_self]; exact Int.le_refl _) (fun p hp => ?_) ?_
    · rcases List.mem_cons.mp hp with rfl | hp
      · exact n2
      · rw [List.mem_singleton.mp hp]; exact n3
    intro h3 F4 N4
    refine ⟨rfl, ?_⟩
    clear F N
    refine N_nil ?_
    refine N_loop ?_
    refine end_S (pre := []) rfl F4 N4 (by decide) (fun p hp => by rw [List.mem_singleton.mp hp]; exact n1) ?_
    intro h4 F6 N6
    clear F4 N4
    refine N_nil ?_
    refine N_of ?_
    k_steps
    refine call_bytes_baK (by k_asm) (by k_mem) (by rw [part_size]; exact hx3) ?_
    intro t9 k9
    k_steps
    rename Fr s.heap _ _ _ => F9
    exact hret _ _ _ _ F9 ⟨_, rfl⟩
theorem swap3 (w : World) (b0 b1 b2 : UInt8) (t1 t2 : Tok) : CtrN w 2 79 [.bytes #[b0, b1, b2] t1, .int 3 t2] (fun _ => True) (fun h h' v => ∃ t, v = .bytes #[b2, b1, b0] t) := swapN w [b0, b1, b2] 3 (.inr rfl) rfl t1 t2
theorem swap2 (w : World) (b0 b1 : UInt8) (t1 t2 : Tok) : CtrN w 2 79 [.bytes #[b0, b1] t1, .int 2 t2] (fun _ => True) (fun h h' v => ∃ t, v = .bytes #[b1, b0] t) := swapN w [b0, b1] 2 (.inl rfl) rfl t1 t2
end Mine
end
section
open PySem PySem.W PyProof.Rows PySem.Spec PySem.Calls PySem.Flt
set_option maxRecDepth 100000
set_option maxHeartbeats 2000000
namespace Mine
open Sem (wp)
section
variable {prog : Program} {w : World} {A : Around} {E : Value → Shared → Prop} {s : Shared}
noncomputable abbrev ByteAt (b : Array UInt8) : Nat → Value → Prop := fun i v => ∃ c u, b[i]? = some c ∧ v = .int (c.toNat : Int) u
theorem extend_bytes {R : Result → Shared → Prop} (hh : A.handled = none) (b : Array UInt8) (t : Tok) (S : Addr) (res : Value) (c₀ : Nat) (hS : s.heap.get? S = some { cls := .type "list", data := .seq #[] c₀ })
    (hR : ∀ h' tk acc' c', (∀ b o, b ≠ S → s.heap.get? b = some o → h'.get? b = some o) → h'.get? S = some { cls := .type "list", dict := none, data := .seq acc' c', slots := #[] } →
      ItemsOf (ByteAt b) acc' b.size → R (.ok (.ret res)) { s with heap := h', toks := tk }) (hn : b.size ≤ sizeLine) :
    wpAny (model prog w) A.in1 (Builtin.List.listExtendWith (.ref S) (.bytes b t) res)
      (fun fin s' => match fin with | .done f => R (.ok f) s' | .again c' => c'.quiet = true ∧ codeAny (model prog w) A c' R s') (fun e s' => R (.error e) s') s := by
  have hSI : S ≠ s.heap.objs.size := Nat.ne_of_lt (Heap.lt_size hS)
  have hSf : S ∉ [s.heap.objs.size] := fun hm => hSI (List.mem_singleton.mp hm)
  unfold Builtin.List.listExtendWith
  refine wpAny_bind (wpAny_typeOf (typeIs_bytes _ _ _) ?_)
  have h1 : Builtin.List.listSameRef (.ref S) (.bytes b t) = false := rfl
  have h2 : (Value.type "bytes" == Value.type "list") = false := by decide
  have h3 : (Value.type "bytes" == Value.type "tuple") = false := by decide
  simp only [h1, h2, h3, Bool.or_false, Bool.false_eq_true, if_false]
  refine wpAny_bind (KBw.pyIter_bytes ?_)
  refine wpAny_bind (wpAny_holding ?_)
  unfold Builtin.List.listLengthHint
  refine wpAny_bind (wpAny_specialOf (typeIs_bytes _ _ _) FB.slot_bytes_len.lookup ?_)
  wp_delta
  refine wpAny_bind (wpAny_isInstance (typeIs_bytes _ _ _) (b := true) (by rw [isSubtype_type]; kernel_rfl) ?_)
  show wpAny _ _ (typeOf (Value.bytes b t) >>= _) _ _ _
  refine wpAny_bind (wpAny_typeOf (typeIs_bytes _ _ _) ?_)
  refine wpAny_pure ?_
  rw [if_neg (by decide)]
  have hst : KBw.IsBytesIter (s.heap.push { cls := .type "bytes_iterator", data := .fields #[.bytes b t, .int 0 0] }) s.heap.objs.size b t 0 := ⟨_, Heap.get?_push_size _ rfl, rfl, rfl⟩
  refine wpAny_pure ⟨plainId_quiet F.plain_extend_loop _, codeAny_extend_loopS (KBw.walks (A := A.in1) hh _ b t).toS hn _ hSf _ b.size 0 _ _ _ rfl (Nat.zero_le _) hst (Heap.get?_push_of_some _ hS) (ItemsOf.nil _) fun s' acc' c' hm hS' hacc => ?_⟩
  rw [Moved.eq_with hm]
  refine hR s'.heap s'.toks acc' c' (fun b ob hb e => hm.heap b ob (fun hmem => ?_) (Heap.get?_push_of_some _ e)) hS' hacc
  rcases List.mem_cons.mp hmem with e' | hmem
  · exact hb e'
  · exact absurd (Heap.lt_size e) (by rw [List.mem_singleton.mp hmem]; exact Nat.lt_irrefl _)
theorem list_init_bytes {R : Result → Shared → Prop} (hh : A.handled = none) (b : Array UInt8) (t : Tok) (S : Addr) (hS : s.heap.get? S = some { cls := .type "list", data := .seq #[] })
    (hR : ∀ h' tk acc' c', (∀ b o, b ≠ S → s.heap.get? b = some o → h'.get? b = some o) → h'.get? S = some { cls := .type "list", dict := none, data := .seq acc' c', slots := #[] } →
      ItemsOf (ByteAt b) acc' b.size → R (.ok (.ret .none)) { s with heap := h', toks := tk }) (hn : b.size ≤ sizeLine) :
    wpAny (model prog w) A.in1 (Builtin.«list.__init__» ⟨[.ref S, .bytes b t], []⟩)
      (fun fin s' => match fin with | .done f => R (.ok f) s' | .again c' => c'.quiet = true ∧ codeAny (model prog w) A c' R s') (fun e s' => R (.error e) s') s := by
  show wpAny _ _ (do let old ← Builtin.List.listItems (.ref S); Builtin.List.listUpdate (.ref S) (fun _ => #[]); letGo old.toList.reverse; Builtin.List.listExtendWith (.ref S) (.bytes b t) .none) _ _ s
  refine wpAny_bind ?_
  unfold Builtin.List.listItems
  refine wpAny_bind (wpAny_seqItems hS rfl (wpAny_pure ?_))
  show wpAny _ _ (updateSeq S (fun _ => #[]) >>= fun _ => letGo (#[] : Array Value).toList.reverse >>= fun _ => Builtin.List.listExtendWith (.ref S) (.bytes b t) .none) _ _ s
  refine wpAny_bind (wpAny_updateSeq hS rfl ?_)
  have hS₂ := Heap.get?_update_self (Obj.mapSeq (fun _ => (#[] : Array Value))) hS rfl
  have oth : ∀ b o, b ≠ S → s.heap.get? b = some o → (s.heap.update S (Obj.mapSeq (fun _ => (#[] : Array Value)))).get? b = some o :=
    fun b o hb e => (Heap.get?_update_other _ _ (Ne.symm hb)).trans e
  refine wpAny_bind (wpAny_letGo ?_)
  refine extend_bytes hh b t S .none _ hS₂ (fun h' tk acc' c' hk hS' hacc => ?_) hn
  exact hR h' tk acc' c' (fun b o hb e => hk b o hb (oth b o hb e)) hS' hacc
theorem call_list_bytes {Q : Value → Shared → Prop} (hh : A.handled = none) (b : Array UInt8) (t : Tok)
    (hQ : ∀ h' tk acc' c', (∀ b o, s.heap.get? b = some o → h'.get? b = some o) →
      h'.get? s.heap.objs.size = some { cls := .type "list", dict := none, data := .seq acc' c', slots := #[] } → ItemsOf (ByteAt b) acc' b.size → Q (.ref s.heap.objs.size) { s with heap := h', toks := tk }) (hn : b.size ≤ sizeLine) :
    wpAny (model prog w) A (call (.type "list") [.bytes b t]) Q E s := by
  refine callType_codes (Q₁ := fun obj s₁ => obj = .ref s.heap.objs.size ∧ s₁ = { s with heap := s.heap.push { cls := .type "list", data := .seq #[] } }) F.called_list (F.typeCall_list_1 _) F.entry_list_init
    (code_list_new _ ⟨rfl, rfl⟩) fun obj s₁ h₁ => ?_
  obtain ⟨rfl, rfl⟩ := h₁
  have hS : (s.heap.push { cls := .type "list", data := .seq #[] }).get? s.heap.objs.size = some { cls := .type "list", data := .seq #[] } := Heap.get?_push_size _ rfl
  refine ⟨⟨_, hS, rfl⟩, F.args_list_init_2 _ _, list_init_bytes (A := A.in1) hh b t _ hS (fun h' tk acc' c' hk hS' hacc => ?_) hn⟩
  exact ⟨rfl, hQ h' tk acc' c' (fun b o e => hk b o (Nat.ne_of_lt (Heap.lt_size e)) (Heap.get?_push_of_some _ e)) hS' hacc⟩
theorem items3 {a b c : UInt8} {acc : Array Value} (h : ItemsOf (ByteAt #[a, b, c]) acc 3) : ∃ u1 u2 u3, acc = #[.int a.toNat u1, .int b.toNat u2, .int c.toNat u3] := by
  obtain ⟨hs, hi⟩ := h
  obtain ⟨l⟩ := acc
  have hl : l.length = 3 := hs
  obtain ⟨x, rfl⟩ := list_of Value.none hl
  refine hide fun GG hGG => ?_
  obtain ⟨c1, u1, e1, f1⟩ := hi 0 (x 0) rfl
  obtain ⟨c2, u2, e2, f2⟩ := hi 1 (x 1) rfl
  obtain ⟨c3, u3, e3, f3⟩ := hi 2 (x 2) rfl
  cases e1; cases e2; cases e3
  refine hGG ⟨u1, u2, u3, ?_⟩
  show (⟨[x 0, x 1, x 2]⟩ : Array Value) = _
  rw [show x 0 = Value.int a.toNat u1 from f1, show x 1 = Value.int b.toNat u2 from f2, show x 2 = Value.int c.toNat u3 from f3]
/- list(three octets): a fresh list of three ints -/
theorem call_list_3 {h₀ : Heap} {L : Addr} {m : Str → Option Value} {news : List (Addr × Obj)} {a b c : UInt8} {t : Tok} {Q : Value → Shared → Prop} (F : Fr h₀ L s.heap m) (N : News h₀ L s.heap news) (hh : A.handled = none)
    (hQ : ∀ x h' tk u1 u2 u3 n, Fr h₀ L h' m → News h₀ L h' ((x, listOf #[.int a.toNat u1, .int b.toNat u2, .int c.toNat u3] n) :: news) → (∀ q ∈ news, q.1 < x) → Q (.ref x) { s with heap := h', toks := tk }) :
    wpAny (model prog w) A (call (.type "list") [.bytes #[a, b, c] t]) Q E s := by
  refine call_list_bytes hh _ t (fun h' tk acc' c' kp hg hit => ?_) (by show 3 ≤ sizeLine; decide)
  obtain ⟨u1, u2, u3, rfl⟩ := items3 hit
  refine hQ _ h' tk u1 u2 u3 c' (F.grownK kp) ?_ fun q hq => Heap.lt_size (N q hq).1
  intro q hq
  rcases List.mem_cons.mp hq with rfl | hq
  · refine ⟨hg, Nat.ne_of_gt F.ns.lt, ?_⟩
    cases e : h₀.get? s.heap.objs.size with
    | none => rfl
    | some o => exact absurd (Heap.lt_size (F.keep _ _ e)) (Nat.lt_irrefl _)
  · exact N.grown kp q hq
end
end Mine
end
section
open PySem PySem.W PyProof.Rows PySem.Spec PySem.Calls PySem.Flt
set_option maxRecDepth 100000
set_option maxHeartbeats 0
namespace Mine
section
variable {prog : Program} {w : World} {A : Around} {E : Value → Shared → Prop} {s : Shared} {h₀ : Heap} {L : Addr} {m : Str → Option Value} {env : Env}
noncomputable def CompSrcB (prog : Program) (w : World) (A : Around) (h₀ : Heap) (L : Addr) (m : Str → Option Value) (env : Env) (elt : PySem.Expr) (x : Str) (scope : Scope) (cl : List (Str × Addr)) (Fin : Shared → List Value → List (Addr × Obj) → Prop) (xv : Value) (s₁ : Shared) : Prop :=
  ∃ b t ks news, xv = .bytes b t ∧ A.handled = none ∧ Fr h₀ L s₁.heap m ∧ News h₀ L s₁.heap news ∧ KBw.bInts b = ks ∧ b.size ≤ sizeLine ∧
    ∀ s₂ : Shared, (∃ h, s₂ = { s₁ with heap := h }) → LCg.CompRest prog w A h₀ L m env elt x scope cl s₂ (fun _ => True) (fun i v => ∃ t, v = .int (ks.getD i 0) t) (Fin s₂) b.size 0 [] news
theorem CompSrcB.intro {elt : PySem.Expr} {x : Str} {scope : Scope} {cl : List (Str × Addr)} {Fin : Shared → List Value → List (Addr × Obj) → Prop} {b : Array UInt8} {t : Tok} {ks : List Int} {news : List (Addr × Obj)} {s₁ : Shared}
    (hh : A.handled = none) (F : Fr h₀ L s₁.heap m) (N : News h₀ L s₁.heap news) (hk : KBw.bInts b = ks) (hsz : b.size ≤ sizeLine)
    (h : ∀ g, LCg.CompRest prog w A h₀ L m env elt x scope cl { s₁ with heap := g } (fun _ => True) (fun i v => ∃ t, v = .int (ks.getD i 0) t) (Fin { s₁ with heap := g }) b.size 0 [] news) :
    CompSrcB prog w A h₀ L m env elt x scope cl Fin (.bytes b t) s₁ := ⟨b, t, ks, news, rfl, hh, F, N, hk, hsz, fun _ ⟨g, e⟩ => e ▸ h g⟩
theorem bytes_walks (hh : A.handled = none) (I : Addr) (b : Array UInt8) (t : Tok) {ks : List Int} (hk : KBw.bInts b = ks) :
    Walks prog w A I [I] [I] b.size (fun i v => ∃ t, v = .int (ks.getD i 0) t) (fun i h => KBw.IsBytesIter h I b t i) :=
  let W := KBw.walks (prog := prog) (w := w) hh I b t
  { sub := W.sub, frame := W.frame, done := W.done, self := W.self,
    item := fun i s Q E hi st hQ => W.item i s Q E hi st fun v h' tk hP => hQ v h' tk (by
      obtain ⟨c, u, e, rfl⟩ := hP
      refine ⟨u, ?_⟩
      subst hk
      rw [List.getD_eq_getElem?_getD, KBw.ints_get e]; rfl) }
theorem ListComp_B {elt iter : PySem.Expr} {x : Str} {px : Pos} {scope : Scope} {cl : List (Str × Addr)} {pos : Pos} {Q : Value → Shared → Prop} (F₀ : Fr h₀ L s.heap m)
    (hclos : closureFor scope env = pure cl) (hcell : ∀ y ∈ scope.names, y.2 ≠ .cell) (hkind : scope.kind = .function)
    (hnames : ∀ y ∈ scope.names, y.2 = .local → scope.names.lookup y.1 = some .local) (hx : scope.names.lookup x = some .local)
    (h : wpAny (model prog w) A (eval iter env) (CompSrcB prog w A h₀ L m env elt x scope cl (fun s₂ => LCg.FinE h₀ L m s₂ Q)) E s)
    (hs : ∀ x, foldedSetIterable iter env x = pure x := by intro _; rfl) :
    wpAny (model prog w) A (eval (.ListComp elt [⟨.Name x px, iter, [], 0⟩] scope pos) env) Q E s := by
  rw [eval_ListComp]
  refine wpAny_comprehension_free (use := none) rfl hs hclos hkind hnames (wpAny_mono h (fun xv s₁ h₁ => ?_) fun _ _ e => e)
  obtain ⟨b, t, ks, news, rfl, hh, F, N, hk, hsz, R⟩ := h₁
  refine KBw.pyIter_bytes ?_
  have up : ∀ a o, s₁.heap.get? a = some o → (s₁.heap.push { cls := .type "bytes_iterator", data := .fields #[.bytes b t, .int 0 0] }).get? a = some o := fun a o e => Heap.get?_push_of_some _ e
  refine LCg.block_U (bytes_walks hh s₁.heap.objs.size b t hk) hsz (fun i h st => by obtain ⟨o, e, _⟩ := st; exact ⟨o, e⟩)
    (fun i h h' o nw st e e' k N S => by obtain ⟨o', q, r⟩ := st; rw [e] at q; cases q; exact ⟨o, e', r⟩) hcell hkind hx ⟨_, Heap.get?_push_size _ rfl, rfl, rfl⟩ (fun b hb => ?_)
    (F.keeps up) (N.grown up) (Nat.ne_of_lt F.ns.lt) (next_is_new F) (fun p hp => Nat.ne_of_lt (Heap.lt_size (N p hp).1)) trivial (R _ ⟨_, rfl⟩) ?_
  · show b < (s₁.heap.push _).objs.size
    rw [Heap.size_push]
    rw [List.mem_singleton.mp hb]; exact Nat.lt_succ_self _
  · intro D C h tk m' ys news' F' N' o1 hn hC₀ hD₀ hCL hDL hCD offC fin
    refine ⟨m', hn, fun h'' hs'' => fin D h'' tk (F'.change hs'' hCL hC₀) (fun p hp => ?_) o1⟩
    refine ⟨hs''.extBut _ _ ?_ (N' p hp).1, (N' p hp).2⟩
    rcases List.mem_cons.mp hp with rfl | hp
    · exact Ne.symm hCD
    · exact offC p hp
end
end Mine
end
section
open PySem PySem.W PyProof.Rows PySem.Spec PySem.Calls PySem.Flt
set_option maxRecDepth 100000
set_option maxHeartbeats 0
namespace Mine
theorem pad_of_O2 : True := by
  w_top off
  trivial
theorem fillo2 : (hd.heap_39 = hd.heap_39) ∧ (PySem.Challenge.rw_zo0002_01 = PySem.Challenge.rw_zo0002_01) := by
  k_fill
  exact ⟨rfl, rfl⟩

theorem CtrN.use {w : World} {n : Nat} {f : Addr} {vs : List Value} {pre : Heap → Prop} {R : Heap → Heap → Value → Prop}
  {mean : ExcName → Option Value} {mg mb : Str → Option Value} {dp un : Nat} {gd : Option (List Code)} {cn : Str} {cs : Scope} {a : Addr} {ccd : Value} {cl : List (Str × Addr)} {outer : List Env} {A₀ : Around} {base h₀ : Heap} {L : Addr} {m : Str → Option Value} {s : Shared} {Q : Value → Shared → Prop}
  {news : List (Addr × Obj)}
  (C : CtrN w n f vs pre R) (B : Below A₀ base outer h₀) (F : Fr h₀ L s.heap m) (X : Frag.In (hd.heap_39 w.params) h₀) (N : News h₀ L s.heap news) (T : Top V0 loose0 mean mg mb h₀) (hk : cs.kind = .function)
  (hd : dp + n < recursionLimit) (hu : un + 8 * n < cLine) (hp : pre s.heap)
  (h : ∀ (v : Value) (h' : Heap) (tk' : Nat), Fr h₀ L h' m → News h₀ L h' news → R s.heap h' v → Q v { s with heap := h', toks := tk' }) :
    wpN (model P0 w) (ktrTop dp un gd cn cs L a ccd cl outer) (call (.ref f) vs) Q s :=
  C mean mg mb dp un gd cn cs a ccd cl outer A₀ base h₀ L m s Q B F X T hk hd hu hp fun v h' tk' kp r => h v h' tk' (F.grownK kp) (N.grown kp) r
theorem CtrN.useE {w : World} {n : Nat} {f : Addr} {vs : List Value} {pre : Heap → Prop} {G : Tok → Value} {news : List (Addr × Obj)}
  {mean : ExcName → Option Value} {mg mb : Str → Option Value} {dp un : Nat} {gd : Option (List Code)} {cn : Str} {cs : Scope} {a : Addr} {ccd : Value} {cl : List (Str × Addr)} {outer : List Env} {A₀ : Around} {base h₀ : Heap} {L : Addr} {m : Str → Option Value} {s : Shared} {Q : Value → Shared → Prop}
  (C : CtrN w n f vs pre (fun _ _ v => ∃ t, v = G t)) (B : Below A₀ base outer h₀) (F : Fr h₀ L s.heap m) (X : Frag.In (hd.heap_39 w.params) h₀) (N : News h₀ L s.heap news) (T : Top V0 loose0 mean mg mb h₀) (hk : cs.kind = .function) (hd : dp + n < recursionLimit) (hu : un + 8 * n < cLine) (hp : pre s.heap)
  (h : ∀ (t : Tok) (h' : Heap) (tk' : Nat), Fr h₀ L h' m → News h₀ L h' news → Q (G t) { s with heap := h', toks := tk' }) :
    wpN (model P0 w) (ktrTop dp un gd cn cs L a ccd cl outer) (call (.ref f) vs) Q s :=
  C.use B F X N T hk hd hu hp fun v h' tk' F' N' ⟨t, e⟩ => by subst e; exact h t h' tk' F' N'
theorem N_callDefK {M : Model} {A : Around} {s : Shared} {env : Env} {K : Frag} {hX : Heap} {oc : Value} {od : Option Addr} {fd : FuncData} {osl : Array (Option Value)} {pos : Pos} {a : Addr} {e : PySem.Expr} {rest : List PySem.Expr} {Q : Value → Shared → Prop}
    (X : K.In hX) (ho : K.lookup a = some ⟨oc, od, .func fd, osl⟩)
    (h : wpAny M A (spliced (backTo pos (starEach (e :: rest) env))) (fun vs s₁ => (∀ b o, hX.get? b = some o → s₁.heap.get? b = some o) ∧ wpN M A (call (.ref a) vs) Q s₁) noE s)
    (he : starEach (e :: rest) env = (false, eval e env) :: starEach rest env := by rfl) :
    wpN M A (callWith pos (.ref a) [] (backTo pos (starEach (e :: rest) env)) []) Q s :=
  N_callDef1 (o := ⟨oc, od, .func fd, osl⟩) (fd := fd) (wpAny_mono h (fun _ _ h₁ => ⟨⟨h₁.1 _ _ (X _ _ ho), rfl⟩, h₁.2⟩) fun _ _ x => x) he
theorem pk1 (a b c : UInt8) : KBy.picked #[a, b, c] none (some 1) = #[a] := rfl
theorem pk2 (a b c : UInt8) : KBy.picked #[a, b, c] (some 1) none = #[b, c] := by rw [KBc.picked_eq]; rfl
theorem pk3 (a b c : UInt8) : KBy.picked #[a, b, c] none (some 2) = #[a, b] := rfl
theorem pk4 (a b c : UInt8) : KBy.picked #[a, b, c] (some 2) none = #[c] := by rw [KBc.picked_eq]; rfl
section
variable {prog : Program} {w : World} {A : Around} {E : Value → Shared → Prop} {s : Shared} {value slice : PySem.Expr} {b : Array UInt8} {t : Tok} {h₀ : Heap} {L : Addr} {m : PySem.Str → Option Value} {news : List (Addr × Obj)} {l u : Value} {lo hi : Option Int} {Q : Value → Shared → Prop}
theorem slice_M {arr : Array UInt8} (hF : Fr h₀ L s.heap m) (hN : News h₀ L s.heap news) (hl : IsPart l lo) (hu : IsPart u hi) (hne : KBy.whole b lo hi = false) (he : KBy.picked b lo hi = arr) (hz : arr.size ≤ 16777216)
    (h : ∀ h' t' k, Fr h₀ L h' m → News h₀ L h' news → Q (.bytes arr t') { s with heap := h', toks := k })
    (hs : subscripted slice false (.bytes b t) (.ref s.heap.objs.size) = operate [.ref s.heap.objs.size, .bytes b t] (getItem (.bytes b t) (.ref s.heap.objs.size)) := by with_unfolding_all rfl)
    (ht : ∀ r, letTemporaryGo value (.bytes b t) r = pure () := by intro _; with_unfolding_all rfl) :
    wpAny (model prog w) A (subscriptTail value slice (.bytes b t) (.ref s.heap.objs.size)) Q E { s with heap := s.heap.push { cls := .type "slice", data := .fields #[l, u, .none] } } := by
  subst he
  exact KBy.slice_N hF hN hl hu hne hz h hs ht
end
theorem slice_E {prog : Program} {w : World} {A : Around} {E : Value → Shared → Prop} {value slice : PySem.Expr} {b arr : Array UInt8} {t : Tok} {h₀ hp : Heap} {g d k o} {L : Addr} {m : PySem.Str → Option Value} {news : List (Addr × Obj)} {l u : Value} {lo hi : Option Int} {Q : Value → Shared → Prop}
    (hF : Fr h₀ L hp m) (hN : News h₀ L hp news) (hl : IsPart l lo) (hu : IsPart u hi) (hne : KBy.whole b lo hi = false) (he : KBy.picked b lo hi = arr) (hz : arr.size ≤ 16777216)
    (h : ∀ h' t' k, Fr h₀ L h' m → News h₀ L h' news → Q (.bytes arr t') ⟨h', g, d, k, o⟩)
    (hs : subscripted slice false (.bytes b t) (.ref hp.objs.size) = operate [.ref hp.objs.size, .bytes b t] (getItem (.bytes b t) (.ref hp.objs.size))) (ht : ∀ r, letTemporaryGo value (.bytes b t) r = pure ()) :
    wpAny (model prog w) A (subscriptTail value slice (.bytes b t) (.ref hp.objs.size)) Q E ⟨hp.push { cls := .type "slice", data := .fields #[l, u, .none] }, g, d, k, o⟩ := slice_M (s := ⟨hp, g, d, k, o⟩) hF hN hl hu hne he hz h hs ht
local macro_rules | `(tactic| walk_at "c") => `(tactic| constructor)
local macro_rules | `(tactic| walk_at "p") => `(tactic| first | exact pk1 _ _ _ | exact pk2 _ _ _ | exact pk3 _ _ _ | exact pk4 _ _ _)
theorem i8 {b : Int} (h : 0 ≤ b ∧ b ≤ 255) : ((b.toNat.toUInt8).toNat : Int) = b := by
  have h1 : (b.toNat.toUInt8).toNat = b.toNat := by
    show b.toNat % 2 ^ 8 = b.toNat
    exact Nat.mod_eq_of_lt (by omega)
  rw [h1]; omega
theorem lstE {a b c a' b' c' : Int} {u1 u2 u3 : Tok} {n : Nat} (h1 : a = a') (h2 : b = b') (h3 : c = c') : PySem.W.listOf #[.int a u1, .int b u2, .int c u3] n = PySem.W.listOf #[.int a' u1, .int b' u2, .int c' u3] n := by
  subst h1; subst h2; subst h3; rfl
theorem bints3 {a b c : Int} (ha : 0 ≤ a ∧ a ≤ 255) (hb : 0 ≤ b ∧ b ≤ 255) (hc : 0 ≤ c ∧ c ≤ 255) : KBw.bInts #[a.toNat.toUInt8, b.toNat.toUInt8, c.toNat.toUInt8] = [a, b, c] := by
  show [((a.toNat.toUInt8).toNat : Int), ((b.toNat.toUInt8).toNat : Int), ((c.toNat.toUInt8).toNat : Int)] = _
  rw [i8 ha, i8 hb, i8 hc]
theorem bytes3 {prog : Program} {w : World} {A : Around} {E : Value → Shared → Prop} {s : Shared} {h₀ : Heap} {L D : Addr} {m : Str → Option Value} {news : List (Addr × Obj)} {a b c a' b' c' : Int} {u1 u2 u3 : Tok} {Q : Value → Shared → Prop}
    (hh : A.handled = none) (F : Fr h₀ L s.heap m) (N : News h₀ L s.heap news) (hm : (D, LCg.lst [.int a u1, .int b u2, .int c u3]) ∈ news) (ea : a = a') (eb : b = b') (ec : c = c') (ha : 0 ≤ a' ∧ a' ≤ 255) (hb : 0 ≤ b' ∧ b' ≤ 255) (hc : 0 ≤ c' ∧ c' ≤ 255)
    (h : ∀ h' t k, Fr h₀ L h' m → News h₀ L h' news → Q (.bytes #[a'.toNat.toUInt8, b'.toNat.toUInt8, c'.toNat.toUInt8] t) { s with heap := h', toks := k }) :
    wpAny (model prog w) A (call (.type "bytes") [.ref D]) Q E s := by
  subst ea; subst eb; subst ec
  refine call_bytes_ints (vs := [.int a u1, .int b u2, .int c u3]) (ns := [a, b, c]) ⟨_, (N _ hm).1, rfl, _, rfl⟩ (by repeat constructor) ?_ (by show 3 ≤ sizeLine; decide) hh fun h' t k kp => h h' t k (F.grownK kp) (N.grown kp)
  intro n hn
  simp only [List.mem_cons, List.not_mem_nil, or_false] at hn
  rcases hn with rfl | rfl | rfl <;> omega
local macro_rules | `(tactic| walk_at "CompSrcB") => `(tactic| (k_here; k_dflt (refine CompSrcB.intro (by rfl) (by k_asm) (by k_asm) (by exact bints3 (by assumption) (by assumption) (by assumption)) (by exact Nat.le_of_ble_eq_true rfl) ?_; intro g'; lcg_lit)))
local macro_rules | `(tactic| walk_at "V") => `(tactic| first | with_reducible assumption | (refine (if_neg (by decide)).trans ?_; walk_at "V") | rfl)
local macro_rules | `(tactic| walk_at $k:str) => tbl [("eval Name", false, [(``nameX_L, "A V ? R R"), (``nameX_K, "A A A I ? R R"), (``nameX_B, "A A A I B D ? R R")]), ("compareOp Eq int int", true, [(``eq_int_t, "s ?"), (``eq_int_f, "s ?")]), ("eval ListComp", true, [(``ListComp_B, "A R D R D R ?")]), ("subscriptTail", true, [(``slice_E, "! A A c c R p L ? w F")]), ("call type:list", true, [(``call_list_3, "A A E ?")])] k
/- a third of a turn, then two thirds -/
noncomputable def turn1 (th : Int) (q : UInt8 × UInt8 × UInt8) : UInt8 × UInt8 × UInt8 := if th = 1 then (q.2.2, q.1, q.2.1) else q
noncomputable def turn2 (th : Int) (q : UInt8 × UInt8 × UInt8) : UInt8 × UInt8 × UInt8 := if th = 2 then (q.2.1, q.2.2, q.1) else q
inductive OctA (b : Array UInt8) (n : Int) (t2 : Tok) (m : Str → Option Value) : Prop
  | mk (t : Tok) (h1 : m (Str.ofString "octets") = some (.bytes b t)) (h2 : m (Str.ofString "sixths") = some (.int n t2)) : OctA b n t2 m
inductive OctB (b : Array UInt8) (k n : Int) (t2 : Tok) (m : Str → Option Value) : Prop
  | mk (t t1 : Tok) (h1 : m (Str.ofString "octets") = some (.bytes b t)) (h3 : m (Str.ofString "thirds") = some (.int k t1)) (h2 : m (Str.ofString "sixths") = some (.int n t2)) : OctB b k n t2 m
inductive OctS (th : Int) (q : UInt8 × UInt8 × UInt8) (m : Str → Option Value) : Prop
  | mk (t t1 : Tok) (h1 : m (Str.ofString "octets") = some (.bytes #[q.1, q.2.1, q.2.2] t)) (h2 : m (Str.ofString "thirds") = some (.int th t1)) : OctS th q m
set_option maxHeartbeats 1000000 in
theorem octs (w : World) (c : Addr) (n th r g b : Int) (q : UInt8 × UInt8 × UInt8) (u1 u2 u3 t2 : Tok) (hr : 0 ≤ r ∧ r ≤ 255) (hg : 0 ≤ g ∧ g ≤ 255) (hb : 0 ≤ b ∧ b ≤ 255)
    (hD : (n.fmod 2 = 1 ∧ th = ((n + 3).fdiv 2).fmod 3 ∧ q = ((255 - r).toNat.toUInt8, (255 - g).toNat.toUInt8, (255 - b).toNat.toUInt8)) ∨ (¬ n.fmod 2 = 1 ∧ th = n.fdiv 2 ∧ q = (r.toNat.toUInt8, g.toNat.toUInt8, b.toNat.toUInt8))) :
    CtrN w 3 96 [.ref c, .int n t2] (fun h => h.IsList c #[.int r u1, .int g u2, .int b u3]) (fun h h' v => New3 h h' v ((turn2 th (turn1 th q)).1.toNat, (turn2 th (turn1 th q)).2.1.toNat, (turn2 th (turn1 th q)).2.2.toNat)) := by
  refine' CtrN.body [(Str.ofString "colour", .ref c), (Str.ofString "sixths", .int n t2)] ?k6 ?k7 ?k9 ?kB (by decide) ?c2 ?c3 ?c4 ?c5 ?_
  case k6 => k_is
  case k7 => k_is
  case k9 => intro _; exact BindsTo.of_eq rfl
  case kB => exact locs rfl
  case c2 => exact rfl
  case c3 => exact rfl
  case c4 => exact rfl
  case c5 => decide
  intro κ mean mg mb base s L' h' tk' Q hdp hu hc F' B' X' T' hret
  have N' : News s.heap L' h' [] := fun _ h => nomatch h
  (try dsimp only)
  refine hide fun GG hGG => ?_
  obtain ⟨m1, F2, hm1, hm2⟩ : ∃ m1 : Str → Option Value, Fr s.heap L' h' m1 ∧ m1 (Str.ofString "colour") = some (.ref c) ∧ m1 (Str.ofString "sixths") = some (.int n t2) := ⟨_, F', rfl, rfl⟩
  clear F'
  refine hGG ?_
  clear hGG
  refine N_seq (LSt L' (fun m _ => OctA #[r.toNat.toUInt8, g.toNat.toUInt8, b.toNat.toUInt8] n t2 m) s) ?s1 ?_
  case s1 =>
    intro Qs hQs
    refine N_of ?_
    k_steps
    rename Fr s.heap _ _ _ => F9
    rename News s.heap _ _ _ => N9
    exact hQs _ ⟨_, _, _, _, F9, N9, _, if_pos rfl, (if_neg (by decide)).trans hm2⟩
  clear F2 hm1 hm2
  refine LSt.all fun h tk m1 Z F2 N2 => ?_
  replace N2 : News s.heap L' h [] := fun _ h => nomatch h
  rintro ⟨t, h1, h2⟩
  refine N_seq (LSt L' (fun m _ => OctB #[r.toNat.toUInt8, g.toNat.toUInt8, b.toNat.toUInt8] (n.fdiv 2) n t2 m) s) ?s2 ?_
  case s2 =>
    intro Qs hQs
    refine N_of ?_
    k_steps
    rename Fr s.heap _ _ _ => F9
    rename News s.heap _ _ _ => N9
    exact hQs _ ⟨_, _, _, _, F9, N9, _, _, (if_neg (by decide)).trans h1, if_pos rfl, (if_neg (by decide)).trans h2⟩
  clear F2 N2 h1 h2
  refine LSt.all fun h tk m1 Z F2 N2 => ?_
  replace N2 : News s.heap L' h [] := fun _ h => nomatch h
  rintro ⟨t, t', h1, h3, h2⟩
  refine N_seq (LSt L' (fun m _ => OctS th q m) s) ?s3 ?_
  case s3 =>
    intro Qs hQs
    rcases hD with ⟨hn, hth, hq⟩ | ⟨hn, hth, hq⟩
    · refine N_of ?_
      k_steps
      refine bytes3 (a' := 255 - r) (b' := 255 - g) (c' := 255 - b) (by exact rfl) (by k_asm) (by k_asm) (by k_mem) rfl rfl rfl (by omega) (by omega) (by omega) ?_
      intro h' t' k' F' N'
      k_steps
      rename Fr s.heap _ _ _ => F9
      rename News s.heap _ _ _ => N9
      subst hq
      exact hQs _ ⟨_, _, _, _, F9, N9, _, _, (if_neg (by decide)).trans (if_pos rfl), (if_pos rfl).trans (by rw [hth])⟩
    · refine N_of ?_
      k_steps
      subst hq
      exact hQs _ ⟨_, _, _, _, F2, N2, _, _, h1, h3.trans (by rw [hth])⟩
  clear F2 N2 h1 h2 h3 hD
  refine LSt.all fun h tk m1 Z F2 N2 => ?_
  replace N2 : News s.heap L' h [] := fun _ h => nomatch h
  rintro ⟨t, t', h1, h3⟩
  refine N_seq (LSt L' (fun m _ => OctS th (turn1 th q) m) s) ?s4 ?_
  case s4 =>
    intro Qs hQs
    unfold turn1 at hQs
    refine N_If ?_
    by_cases hth : th = 1
    · rw [if_pos hth] at hQs
      k_steps
      refine N_cons (N_Assign ?_)
      refine N_CallName ?_
      k_steps
      k_dflt (refine' N_callDefK ?kX ?ko ?_; (case kX => k_asm); (case ko => k_is))
      k_steps
      k_dflt (refine' CtrN.useE (swap3 _ _ _ _ _ _) ?k1 ?k2 ?k3 ?k4 ?k5 ?k6 ?k7 ?k8 ?k9 ?_; (case k1 => k_asm); (case k2 => k_asm); (case k3 => k_asm); (case k4 => k_asm); (case k5 => k_asm); (case k6 => first | exact rfl | assumption); (case k7 => ktr_room); (case k8 => ktr_units); (case k9 => trivial))
      intro t' h' tk' F' N'
      (try dsimp only)
      k_steps
      refine N_cons (N_Assign (N_BinOpR ?_))
      k_steps
      refine N_CallName ?_
      k_steps
      k_dflt (refine' N_callDefK ?kX ?ko ?_; (case kX => k_asm); (case ko => k_is))
      k_steps
      k_dflt (refine' CtrN.useE (swap2 _ _ _ _ _) ?k1 ?k2 ?k3 ?k4 ?k5 ?k6 ?k7 ?k8 ?k9 ?_; (case k1 => k_asm); (case k2 => k_asm); (case k3 => k_asm); (case k4 => k_asm); (case k5 => k_asm); (case k6 => first | exact rfl | assumption); (case k7 => ktr_room); (case k8 => ktr_units); (case k9 => trivial))
      intro t' h' tk' F' N'
      (try dsimp only)
      k_steps
      rename Fr s.heap _ _ _ => F9
      rename News s.heap _ _ _ => N9
      refine N_nil ?_
      exact hQs _ ⟨_, _, _, _, F9, N9, _, _, if_pos rfl, (if_neg (by decide)).trans h3⟩
    · rw [if_neg hth] at hQs
      k_steps
      refine N_nil ?_
      exact hQs _ ⟨_, _, _, _, F2, N2, _, _, h1, h3⟩
  clear F2 N2 h1 h3
  refine LSt.all fun h tk m1 Z F2 N2 => ?_
  replace N2 : News s.heap L' h [] := fun _ h => nomatch h
  generalize turn1 th q = q at *
  rintro ⟨t, t', h1, h3⟩
  refine N_seq (LSt L' (fun m _ => OctS th (turn2 th q) m) s) ?s5 ?_
  case s5 =>
    intro Qs hQs
    unfold turn2 at hQs
    refine N_If ?_
    by_cases hth : th = 2
    · rw [if_pos hth] at hQs
      k_steps
      refine N_cons (N_Assign ?_)
      refine N_CallName ?_
      k_steps
      k_dflt (refine' N_callDefK ?kX ?ko ?_; (case kX => k_asm); (case ko => k_is))
      k_steps
      k_dflt (refine' CtrN.useE (swap3 _ _ _ _ _ _) ?k1 ?k2 ?k3 ?k4 ?k5 ?k6 ?k7 ?k8 ?k9 ?_; (case k1 => k_asm); (case k2 => k_asm); (case k3 => k_asm); (case k4 => k_asm); (case k5 => k_asm); (case k6 => first | exact rfl | assumption); (case k7 => ktr_room); (case k8 => ktr_units); (case k9 => trivial))
      intro t' h' tk' F' N'
      (try dsimp only)
      k_steps
      refine N_cons (N_Assign (N_BinOpL ?_))
      refine N_CallName ?_
      k_steps
      k_dflt (refine' N_callDefK ?kX ?ko ?_; (case kX => k_asm); (case ko => k_is))
      k_steps
      k_dflt (refine' CtrN.useE (swap2 _ _ _ _ _) ?k1 ?k2 ?k3 ?k4 ?k5 ?k6 ?k7 ?k8 ?k9 ?_; (case k1 => k_asm); (case k2 => k_asm); (case k3 => k_asm); (case k4 => k_asm); (case k5 => k_asm); (case k6 => first | exact rfl | assumption); (case k7 => ktr_room); (case k8 => ktr_units); (case k9 => trivial))
      intro t' h' tk' F' N'
      (try dsimp only)
      k_steps
      rename Fr s.heap _ _ _ => F9
      rename News s.heap _ _ _ => N9
      refine N_nil ?_
      exact hQs _ ⟨_, _, _, _, F9, N9, _, _, if_pos rfl, (if_neg (by decide)).trans h3⟩
    · rw [if_neg hth] at hQs
      k_steps
      refine N_nil ?_
      exact hQs _ ⟨_, _, _, _, F2, N2, _, _, h1, h3⟩
  clear F2 N2 h1 h3
  refine LSt.all fun h tk m1 Z F2 N2 => ?_
  replace N2 : News s.heap L' h [] := fun _ h => nomatch h
  generalize turn2 th q = q at *
  rintro ⟨t, t', h1, h3⟩
  refine N_of ?_
  k_steps
  (rename Fr s.heap _ _ _ => F9); (rename News s.heap _ _ _ => N9)
  exact hret _ _ _ _ F9 ⟨_, _, _, _, _, rfl, (N9 _ (.head _)).2.2, (N9 _ (.head _)).1⟩
theorem octE {w : World} {c : Addr} {n r g b : Int} {u1 u2 u3 t2 : Tok} {q q' : Int × Int × Int} (C : CtrN w 3 96 [.ref c, .int n t2] (fun h => h.IsList c #[.int r u1, .int g u2, .int b u3]) (fun h h' v => New3 h h' v q)) (e : q = q') :
    CtrN w 3 96 [.ref c, .int n t2] (fun h => h.IsList c #[.int r u1, .int g u2, .int b u3]) (fun h h' v => New3 h h' v q') := e ▸ C
theorem i8f {b : Int} (h : 0 ≤ b ∧ b ≤ 255) : (((255 - b).toNat.toUInt8).toNat : Int) = 255 - b := i8 (by omega)
end Mine
end
section
open PySem PySem.W PyProof.Rows PySem.Spec PySem.Calls PySem.Flt
set_option maxRecDepth 100000
set_option maxHeartbeats 1000000
namespace Mine
theorem pad_of_S3 : True := by
  w_top off
  trivial
theorem fills3 : (hd.heap_39 = hd.heap_39) ∧ (PySem.Challenge.rw_zo0002_01 = PySem.Challenge.rw_zo0002_01) := by
  k_fill
  exact ⟨rfl, rfl⟩
theorem strx_ok (w : World) (x : Str) (t : Tok) : CtrB w 1 72 [.str x t] (fun _ => True) (fun _ _ v => v = .str x t) := by
  refine' CtrB.body [(Str.ofString "s", .str x t)] ?k6 ?k7 ?k9 ?kB (Nat.le_refl _) ?c2 ?c3 ?c4 ?c5 ?_
  case k6 => k_is
  case k7 => k_is
  case k9 => intro _; exact BindsTo.of_eq rfl
  case kB => exact locs rfl
  case c2 => exact rfl
  case c3 => exact rfl
  case c4 => exact rfl
  case c5 => decide
  intro κ mean mg mb base s L' h' tk' Q E hdp hu hc F' B' X' T' hret
  have N' : News s.heap L' h' [] := fun _ h => nomatch h
  (try dsimp only)
  k_steps
  (rename Fr s.heap _ _ _ => F9)
  exact hret _ _ _ _ F9 rfl
end Mine
end
section
open PySem PySem.W PyProof.Rows PySem.Spec PySem.Calls
set_option maxRecDepth 100000
namespace Mine
/- a turn of the loop -/
inductive PSt (n : Nat) (f g : Nat → Int) (St : Nat → Heap → Prop) (C D : Addr) (h₀ : Heap) (L : Addr) (m : Str → Option Value) (Z : List (Addr × Obj)) (s : Shared) : Nat → Shared → Prop
  | mk (h : Heap) (tk i : Nat) (vs : List Value) (m' : Str → Option Value) (hi : i ≤ n) (hlen : vs.length = i) (hv : ∀ j, j < i → ∃ t, vs[j]? = some (.int (f j + g j) t)) (hSt : St i h) (hn' : h.Ns C m') (hD : h.get? D = some (LCg.lst vs)) (F' : Fr h₀ L h m) (N' : News h₀ L h Z) : PSt n f g St C D h₀ L m Z s (n + 1 - i) { s with heap := h, toks := tk }
section
variable {prog : Program} {w : World} {A : Around} {E : Value → Shared → Prop} {s : Shared} {h₀ : Heap} {L : Addr} {m : Str → Option Value} {Z : List (Addr × Obj)} {env : Env}
/- [x + y for x, y in ..] over pairs of ints -/
theorem pair_sums {a b : Str} {pa pb tp qa qb qp : Pos} {kk : Nat} {iter : PySem.Expr} {scope : Scope} {cl : List (Str × Addr)} {pos : Pos} {I : Addr} {fp wr : List Addr} {n : Nat} {P Md : Nat → Value → Heap → Prop} {St : Nat → Heap → Prop} {f g : Nat → Int} {Q : Value → Shared → Prop}
    (hh : A.handled = none) (W : KTurns prog w A (.Tuple [.Name a pa, .Name b pb] kk tp) I fp wr n P Md St) (hst : St 0 s.heap) (hself : ∀ Q E s, St 0 s.heap → Q (.ref I) s → wpAny (model prog w) A (pyIter (.ref I)) Q E s)
    (fpb : ∀ c ∈ fp, c < s.heap.objs.size) (wrb : ∀ c ∈ wr, h₀.get? c = none ∧ c ≠ L ∧ ∀ p ∈ Z, p.1 ≠ c) (F : Fr h₀ L s.heap m) (N : News h₀ L s.heap Z) (hn64 : n ≤ 64)
    (hP : ∀ i v h, i < n → P i v h → ∃ T t u, v = .ref T ∧ h.IsTuple T #[.int (f i) t, .int (g i) u])
    (hcell : ∀ y ∈ scope.names, y.2 ≠ .cell) (hkind : scope.kind = .function) (hxa : scope.names.lookup a = some .local) (hxb : scope.names.lookup b = some .local) (hab : a ≠ b)
    (hda : (a == ("__debug__" : Str)) = false) (hdb : (b == ("__debug__" : Str)) = false)
    (hQ : ∀ D h tk (vs : List Value), Fr h₀ L h m → News h₀ L h ((D, LCg.lst vs) :: Z) → (∀ p ∈ Z, p.1 ≠ D) → vs.length = n → (∀ i, i < n → ∃ t, vs[i]? = some (.int (f i + g i) t)) → Q (.ref D) { s with heap := h, toks := tk }) :
    wpAny (model prog w) A (newList []) (fun acc s₃ =>
      wpAny (model prog w) A (newFunctionEnv scope env.globals cl [] env.qual none .none (some env)) (fun cenv s₄ =>
        codeAny (model prog w) A (.compStart (.ListComp (.BinOp (.Name a qa) .Add (.Name b qb) qp) [⟨.Tuple [.Name a pa, .Name b pb] kk tp, iter, [], 0⟩] scope pos) 0 (.ref I) acc { cenv with scope := relabel scope env }) (compPost (model prog w) A E none Q acc cenv.locals) s₄) E s₃) E s := by
  refine wpAny_newObj_type (wpAny_newFunctionEnv hcell (by intro y hy; simp at hy) (fun h₁ hns₁ hsb₁ => ?_) hkind)
  dsimp only at hns₁ hsb₁ ⊢
  generalize hH2 : s.heap.push { cls := .type "list", dict := none, data := .seq ([] : List Value).toArray } = H2 at hns₁ hsb₁ ⊢
  have hC : H2.objs.size = s.heap.objs.size + 1 := by rw [← hH2, Heap.size_push]
  generalize hCd : H2.objs.size = C at hns₁ hsb₁ hC ⊢
  generalize hDd : s.heap.objs.size = D at hC fpb ⊢
  have hDC : D ≠ C := by rw [hC]; exact Nat.ne_of_lt (Nat.lt_succ_self _)
  have hlow : ∀ c, c < D → c ≠ C ∧ c ≠ D := fun c h => ⟨by rw [hC]; exact Nat.ne_of_lt (Nat.lt_succ_of_lt h), Nat.ne_of_lt h⟩
  have old : ∀ c o, s.heap.get? c = some o → h₁.get? c = some o := fun c o e => hsb₁.extBut c o (hlow c (by rw [← hDd]; exact Heap.lt_size e)).1 (Heap.get?_push_of_some _ (by rw [← hH2]; exact Heap.get?_push_of_some _ e))
  have hacc : h₁.get? D = some (LCg.lst []) := hsb₁.extBut _ _ hDC (Heap.get?_push_of_some _ (by rw [← hH2, ← hDd]; exact Heap.get?_push_size _ rfl))
  have fresh₀ : ∀ c, D ≤ c → h₀.get? c = none := fun c hc => by
    cases e : h₀.get? c with
    | none => rfl
    | some o => exact absurd (Heap.lt_size (F.keep _ _ e)) (by rw [hDd]; exact Nat.not_lt.mpr hc)
  have hD₀ := fresh₀ D (Nat.le_refl _)
  have hC₀ := fresh₀ C (by rw [hC]; exact Nat.le_succ _)
  have hLD : L < D := by rw [← hDd]; exact F.ns.lt
  have hCL : C ≠ L := (hlow L hLD).1.symm
  have hDL : D ≠ L := (hlow L hLD).2.symm
  have hZ : ∀ p ∈ Z, p.1 ≠ C ∧ p.1 ≠ D := fun p hp => hlow _ (by rw [← hDd]; exact Heap.lt_size (N p hp).1)
  have hDf : D ∉ fp := fun h => Nat.lt_irrefl _ (fpb _ h)
  have hCf : C ∉ fp := fun h => (hlow _ (fpb _ h)).1 rfl
  have hDw : D ∉ wr := fun h => hDf (W.sub _ h)
  have hCw : C ∉ wr := fun h => hCf (W.sub _ h)
  have hst₁ : St 0 h₁ := W.frame _ _ _ hst fun c hc o e => old c o e
  have loop : ∀ s₃ : Shared, s₃ = { s with heap := h₁, toks := s.toks + ([] : List (Str × Value)).length } →
      codeAny (model prog w) A (.compLoop (.ListComp (.BinOp (.Name a qa) .Add (.Name b qb) qp) [⟨.Tuple [.Name a pa, .Name b pb] kk tp, iter, [], 0⟩] scope pos) 0 (.ref I) (.ref D) (compEnvC scope cl C env))
        (compPost (model prog w) A E none Q (.ref D) C) s₃ := by
    rintro s₃ rfl
    refine kcp_loop (PSt n f g St C D h₀ L m Z s) ?_ (n + 1) (.mk h₁ _ 0 [] _ (Nat.zero_le _) rfl (fun j hj => absurd hj (Nat.not_lt_zero _)) hst₁ hns₁ hacc (F.keeps old) fun p hp => ⟨old _ _ (N p hp).1, (N p hp).2⟩)
    intro k s' hps
    obtain ⟨h, tk, i, vs, m', hi, hlen, hv, hSt, hn', hD, F', N'⟩ := hps
    have kept : ∀ g' : Heap, (∀ c o, c ∉ wr → h.get? c = some o → g'.get? c = some o) → g'.Ns C m' ∧ g'.get? D = some (LCg.lst vs) ∧ Fr h₀ L g' m ∧ News h₀ L g' Z := fun g' hk =>
      ⟨hn'.at' fun o e => hk C o hCw e, hk D _ hDw hD, ⟨F'.ns.at' fun o e => hk L o (fun hm => (wrb L hm).2.1 rfl) e, fun c o e => hk c o (fun hm => by rw [(wrb c hm).1] at e; cases e) (F'.keep c o e), F'.above⟩,
        fun p hp => ⟨hk _ _ (fun hm => (wrb _ hm).2.2 p hp rfl) (N' p hp).1, (N' p hp).2⟩⟩
    by_cases hlt : i < n
    · refine W.item i _ _ _ hlt hSt fun v h₂ tk₂ hMd hk₂ => ?_
      refine W.go i v _ _ _ hMd fun h₃ hPv hst₃ hk₃ => ?_
      obtain ⟨T, t, u, rfl, hT⟩ := hP i v h₃ hlt hPv
      obtain ⟨n3, d3, F3, N3⟩ := kept h₃ fun c o hc e => hk₃ c o hc (hk₂ c o hc e)
      refine kcp_assign (env := compEnvC scope cl C env) hh hT (lookup_relabel_local hxa) (lookup_relabel_local hxb) (by simp [compEnvC, relabel, hkind]) n3 fun h₄ tk₄ n4 k4 => ?_
      have k4' : ∀ c o, c ≠ C → h₃.get? c = some o → h₄.get? c = some o := k4
      have d4 := k4' D _ hDC d3
      have F4 : Fr h₀ L h₄ m := ⟨F3.ns.at' fun o e => k4' L o hCL.symm e, fun c o e => k4' c o (fun q => by rw [q, hC₀] at e; cases e) (F3.keep c o e), F3.above⟩
      have N4 : News h₀ L h₄ Z := fun p hp => ⟨k4' _ _ (hZ p hp).1 (N3 p hp).1, (N3 p hp).2⟩
      have st4 : St (i + 1) h₄ := W.frame _ _ _ hst₃ fun c hc o e => k4' c o (fun q => hCf (q ▸ hc)) e
      refine wpAny_BinOp (wpAny_Name (wpAny_loadName_local (by simp [compEnvC, relabel, hkind]) (lookup_relabel_local hxa) n4 (by rw [if_neg hab, if_pos rfl]) ?_) hda)
      refine wpAny_Name (wpAny_loadName_local (by simp [compEnvC, relabel, hkind]) (lookup_relabel_local hxb) n4 (by rw [if_pos rfl]) ?_) hdb
      refine PyProof.Rows.add_int ?_
      refine append_at (hsz := by rw [List.size_toArray, hlen, sizeLine_eq]; lia) d4 fun h₅ hs₅ d5 => ?_
      refine ⟨n + 1 - (i + 1), by lia, .mk h₅ _ (i + 1) (vs ++ [_]) _ hlt (by rw [List.length_append, List.length_singleton, hlen]) (fun j hj => ?_) (W.frame _ _ _ st4 fun c hc o e => hs₅.extBut c o (fun q => hDf (q ▸ hc)) e)
        (n4.at' fun o e => hs₅.extBut C o hDC.symm e) (d5.trans (congrArg some (LCg.lst_snoc vs _))) (F4.change hs₅ hDL hD₀) fun p hp => ⟨hs₅.extBut _ _ (hZ p hp).2 (N4 p hp).1, (N4 p hp).2⟩⟩
      by_cases hji : j < i
      · rw [List.getElem?_append_left (by lia)]; exact hv j hji
      · have : j = vs.length := by lia
        subst this
        rw [List.getElem?_append_right (Nat.le_refl _), Nat.sub_self, ← hlen]
        exact ⟨_, rfl⟩
    · have hin : i = n := by lia
      subst hin
      refine W.done _ _ _ hSt fun h₂ tk₂ hk₂ => ?_
      obtain ⟨n3, d3, F3, N3⟩ := kept h₂ hk₂
      refine ⟨_, n3, fun h' hs' => hQ D h' tk₂ vs (F3.change hs' hCL hC₀) (fun p hp => ?_) (fun p hp => (hZ p hp).2) hlen hv⟩
      rcases List.mem_cons.mp hp with rfl | hp
      · exact ⟨hs'.extBut _ _ hDC d3, hDL, hD₀⟩
      · exact ⟨hs'.extBut _ _ (hZ p hp).1 (N3 p hp).1, (N3 p hp).2⟩
  exact codeAny_compStart_list (loop _ rfl) (hself _ _ _ hst₁ (loop _ rfl))
/- [x + y for x, y in zip(l1, l2)] -/
theorem zip_sums {a b : Str} {pa pb tp qa qb qp : Pos} {kk : Nat} {iter : PySem.Expr} {scope : Scope} {cl : List (Str × Addr)} {pos : Pos} {l1 l2 : Addr} {xs ys : Array Value} {n : Nat} {f g : Nat → Int} {Q : Value → Shared → Prop}
    (hh : A.handled = none) (F : Fr h₀ L s.heap m) (N : News h₀ L s.heap Z) (hl1 : s.heap.IsList l1 xs) (hl2 : s.heap.IsList l2 ys) (hn : min xs.size ys.size = n) (hn64 : n ≤ 64)
    (hx : ∀ i, i < n → ∃ t, xs[i]? = some (.int (f i) t)) (hy : ∀ i, i < n → ∃ t, ys[i]? = some (.int (g i) t))
    (hcell : ∀ y ∈ scope.names, y.2 ≠ .cell) (hkind : scope.kind = .function) (hxa : scope.names.lookup a = some .local) (hxb : scope.names.lookup b = some .local) (hab : a ≠ b)
    (hda : (a == ("__debug__" : Str)) = false) (hdb : (b == ("__debug__" : Str)) = false)
    (hQ : ∀ D h tk (vs : List Value), Fr h₀ L h m → News h₀ L h ((D, LCg.lst vs) :: Z) → (∀ p ∈ Z, p.1 ≠ D) → vs.length = n → (∀ i, i < n → ∃ t, vs[i]? = some (.int (f i + g i) t)) → Q (.ref D) { s with heap := h, toks := tk }) :
    wpAny (model prog w) A (call (.type "zip") [.ref l1, .ref l2]) (fun x s₁ => wpAny (model prog w) A (pyIter x) (fun it s₂ => wpAny (model prog w) A (newList []) (fun acc s₃ =>
      wpAny (model prog w) A (newFunctionEnv scope env.globals cl [] env.qual none .none (some env)) (fun cenv s₄ =>
        codeAny (model prog w) A (.compStart (.ListComp (.BinOp (.Name a qa) .Add (.Name b qb) qp) [⟨.Tuple [.Name a pa, .Name b pb] kk tp, iter, [], 0⟩] scope pos) 0 it acc { cenv with scope := relabel scope env }) (compPost (model prog w) A E none Q acc cenv.locals) s₄) E s₃) E s₂) E s₁) E s := by
  have hlt1 : l1 < s.heap.objs.size := by obtain ⟨_, e, _⟩ := hl1; exact Heap.lt_size e
  have hlt2 : l2 < s.heap.objs.size := by obtain ⟨_, e, _⟩ := hl2; exact Heap.lt_size e
  have hLs : L < s.heap.objs.size := F.ns.lt
  refine call_zip_2 hl1 hl2 fun h' hz hTI hTO hi1 hi2 hsz hk => ?_
  refine wpAny_pyIter_zip hz ?_
  have W := (KTurns.ofWalksU (elts := [.Name a pa, .Name b pb]) (k := kk) (pos := tp) (WalksT.zip2 (prog := prog) (w := w) (A := A) hh _ _ _ _ _ _ _ (ktu_apart s.heap.objs.size l1 l2 hlt1 hlt2) xs ys).toU)
  rw [hn] at W
  refine pair_sums (s := { s with heap := h' }) (Z := Z) (f := f) (g := g) hh W ⟨hz, hTI, ⟨_, _, hTO⟩, hi1, hi2, hl1.at fun o e => hk l1 o e, hl2.at fun o e => hk l2 o e⟩ (fun Q E s st hq => wpAny_pyIter_zip st.1 hq) ?_ ?_ (F.keeps hk) (N.grown hk) hn64 ?_ hcell hkind hxa hxb hab hda hdb
    fun D h tk vs F' N' o h1 h2 => hQ D h tk vs F' N' o h1 h2
  · intro c hc
    show c < h'.objs.size
    rw [hsz]
    simp only [List.mem_cons, List.not_mem_nil, or_false] at hc
    rcases hc with rfl | rfl | rfl | rfl | rfl | rfl | rfl <;> first | exact Nat.add_lt_add_left (by decide) _ | exact Nat.lt_add_of_pos_right (by decide) | exact Nat.lt_of_lt_of_le hlt1 (Nat.le_add_right _ _) | exact Nat.lt_of_lt_of_le hlt2 (Nat.le_add_right _ _)
  · intro c hc
    have hge : s.heap.objs.size ≤ c := by
      simp only [List.mem_cons, List.not_mem_nil, or_false] at hc
      rcases hc with rfl | rfl | rfl | rfl <;> first | exact Nat.le_refl _ | exact Nat.le_add_right _ _
    exact ⟨Heap.get?_none_of_le (Nat.le_trans F.above (Nat.le_trans (Nat.le_of_lt hLs) hge)), Nat.ne_of_gt (Nat.lt_of_lt_of_le hLs hge), fun p hp => Nat.ne_of_lt (Nat.lt_of_lt_of_le (Heap.lt_size (N p hp).1) hge)⟩
  · rintro i v h hi ⟨T, vals, rfl, ⟨x, y, e1, e2, rfl⟩, hT⟩
    obtain ⟨t, ht⟩ := hx i hi
    obtain ⟨u, hu⟩ := hy i hi
    rw [ht] at e1; cases e1
    rw [hu] at e2; cases e2
    exact ⟨T, t, u, rfl, hT⟩
end
end Mine
end
section
open PySem PySem.W PyProof.Rows PySem.Spec PySem.Calls PySem.Flt
set_option maxRecDepth 100000
namespace Mine
/- a cell of the ledger -/
inductive CellIs (Z : List (Addr × Obj)) (a : Addr) (v : Option Value) : Prop
  | mk (o : Obj) (m : (a, o) ∈ Z) (d : o.data = .cell v) : CellIs Z a v
/- a list of three ints in the ledger -/
inductive L3 (Z : List (Addr × Obj)) (a : Addr) (c : Col) : Prop
  | mk (p1 p2 p3 : Tok) (n : Nat) (m : (a, listOf #[.int c.1 p1, .int c.2.1 p2, .int c.2.2 p3] n) ∈ Z) : L3 Z a c
/- a list of references in the ledger -/
inductive LR (Z : List (Addr × Obj)) (a : Addr) (rs : List Addr) : Prop
  | mk (n : Nat) (m : (a, listOf (rs.map Value.ref).toArray n) ∈ Z) : LR Z a rs
section
variable {h₀ h : Heap} {L a x : Addr} {Z Z' : List (Addr × Obj)} {v : Option Value} {c : Col} {rs : List Addr}
theorem CellIs.mono (H : CellIs Z a v) (hs : ∀ q ∈ Z, q ∈ Z') : CellIs Z' a v := let ⟨o, m, d⟩ := H; ⟨o, hs _ m, d⟩
theorem L3.mono (H : L3 Z a c) (hs : ∀ q ∈ Z, q ∈ Z') : L3 Z' a c := let ⟨p1, p2, p3, n, m⟩ := H; ⟨p1, p2, p3, n, hs _ m⟩
theorem LR.mono (H : LR Z a rs) (hs : ∀ q ∈ Z, q ∈ Z') : LR Z' a rs := let ⟨n, m⟩ := H; ⟨n, hs _ m⟩
theorem CellIs.pull (H : CellIs Z a v) (P : Pulls Z Z' x) (hne : a ≠ x) : CellIs Z' a v := let ⟨o, m, d⟩ := H; ⟨o, P _ _ m hne, d⟩
theorem CellIs.pullI {it : Value} {fs : Array Value} (H : CellIs Z a v) (N : News h₀ L h Z) (hx : (x, (⟨it, none, .fields fs, #[]⟩ : Obj)) ∈ Z) (P : Pulls Z Z' x) : CellIs Z' a v :=
  let ⟨o, m, d⟩ := H; ⟨o, P _ _ m (news_ne N m hx (cell_not_it d)), d⟩
theorem CellIs.pullL {its : Array Value} {n : Nat} (H : CellIs Z a v) (N : News h₀ L h Z) (hx : (x, listOf its n) ∈ Z) (P : Pulls Z Z' x) : CellIs Z' a v :=
  let ⟨o, m, d⟩ := H; ⟨o, P _ _ m (news_ne N m hx (cell_not_list d)), d⟩
theorem L3.pullC (H : L3 Z a c) (N : News h₀ L h Z) (hx : CellIs Z x v) (P : Pulls Z Z' x) : L3 Z' a c :=
  let ⟨p1, p2, p3, n, m⟩ := H; let ⟨o, mx, dx⟩ := hx; ⟨p1, p2, p3, n, P _ _ m (Ne.symm (news_ne N mx m (cell_not_list dx)))⟩
theorem LR.pullC (H : LR Z a rs) (N : News h₀ L h Z) (hx : CellIs Z x v) (P : Pulls Z Z' x) : LR Z' a rs :=
  let ⟨n, m⟩ := H; let ⟨o, mx, dx⟩ := hx; ⟨n, P _ _ m (Ne.symm (news_ne N mx m (cell_not_list dx)))⟩
theorem L3.pullI {it : Value} {fs : Array Value} (H : L3 Z a c) (N : News h₀ L h Z) (hx : (x, (⟨it, none, .fields fs, #[]⟩ : Obj)) ∈ Z) (P : Pulls Z Z' x) : L3 Z' a c :=
  let ⟨p1, p2, p3, n, m⟩ := H; ⟨p1, p2, p3, n, P _ _ m (news_ne N m hx fun e => by cases congrArg Obj.data e)⟩
theorem LR.pullI {it : Value} {fs : Array Value} (H : LR Z a rs) (N : News h₀ L h Z) (hx : (x, (⟨it, none, .fields fs, #[]⟩ : Obj)) ∈ Z) (P : Pulls Z Z' x) : LR Z' a rs :=
  let ⟨n, m⟩ := H; ⟨n, P _ _ m (news_ne N m hx fun e => by cases congrArg Obj.data e)⟩
theorem items_ne {c : Col} {p1 p2 p3 : Tok} {n k : Nat} : listOf #[.int c.1 p1, .int c.2.1 p2, .int c.2.2 p3] n ≠ listOf (rs.map Value.ref).toArray k := fun e => by
  have e1 := congrArg Obj.data e
  simp only [W.listOf, Data.seq.injEq] at e1
  have e2 := congrArg (fun q => q[0]?) e1.1
  cases rs with
  | nil => simp at e2
  | cons r rs => simp at e2
theorem L3.pullR {k : Nat} (H : L3 Z a c) (N : News h₀ L h Z) (hx : (x, listOf (rs.map Value.ref).toArray k) ∈ Z) (P : Pulls Z Z' x) : L3 Z' a c :=
  let ⟨p1, p2, p3, n, m⟩ := H; ⟨p1, p2, p3, n, P _ _ m (news_ne N m hx items_ne)⟩
end
/- what stands in a turn of _law_corners -/
structure CorZ (L c Hp Gr Cr : Addr) (hc gc : Col) (nv : Option Value) (rs : List Addr) (ks : Nat → Col) (Z : List (Addr × Obj)) : Prop where
  cn : CellIs Z (L + 1 + 1 + 1 + 1) nv
  ch : CellIs Z (L + 1 + 1 + 1) (some (.ref Hp))
  cg : CellIs Z (L + 1 + 1) (some (.ref Gr))
  cc : CellIs Z (L + 1) (some (.ref c))
  hp : L3 Z Hp hc
  gr : L3 Z Gr gc
  cr : LR Z Cr rs
  kr : ∀ (j : Nat) x, rs[j]? = some x → L3 Z x (ks j)
/- the state between two statements of _law_corners; EX: the iterators -/
inductive CorSt (L c : Addr) (k : Int) (t2 : Tok) (hc gc : Col) (nv : Option Value) (nr : Nat) (ks : Nat → Col) (EX : List (Addr × Value × Array Value)) (s : Shared) : Shared → Prop
  | mk (h : Heap) (tk : Nat) (Z : List (Addr × Obj)) (Hp Gr Cr : Addr) (rs : List Addr) (sg : Option Value)
    (F : Fr s.heap L h (fun y => if y = Str.ofString "sixth" then sg else if y = Str.ofString "corners" then some (.ref Cr) else if y = Str.ofString "sixths" then some (.int k t2) else none))
    (N : News s.heap L h Z) (H : CorZ L c Hp Gr Cr hc gc nv rs ks Z) (hr : rs.length = nr) (hI : ∀ q ∈ EX, (q.1, (⟨q.2.1, none, .fields q.2.2, #[]⟩ : Obj)) ∈ Z) : CorSt L c k t2 hc gc nv nr ks EX s { s with heap := h, toks := tk }
theorem CorSt.all {L c : Addr} {k : Int} {t2 : Tok} {hc gc : Col} {nv : Option Value} {nr : Nat} {ks : Nat → Col} {EX : List (Addr × Value × Array Value)} {s : Shared} {P : Shared → Prop}
    (f : ∀ (h : Heap) (tk : Nat) (Z : List (Addr × Obj)) (Hp Gr Cr : Addr) (rs : List Addr) (sg : Option Value), Fr s.heap L h (fun y => if y = Str.ofString "sixth" then sg else if y = Str.ofString "corners" then some (.ref Cr) else if y = Str.ofString "sixths" then some (.int k t2) else none) →
      News s.heap L h Z → CorZ L c Hp Gr Cr hc gc nv rs ks Z → rs.length = nr → (∀ q ∈ EX, (q.1, (⟨q.2.1, none, .fields q.2.2, #[]⟩ : Obj)) ∈ Z) → P { s with heap := h, toks := tk }) : ∀ s', CorSt L c k t2 hc gc nv nr ks EX s s' → P s' :=
  fun _ ⟨h, tk, Z, Hp, Gr, Cr, rs, sg, F, N, H, hr, hI⟩ => f h tk Z Hp Gr Cr rs sg F N H hr hI
theorem ltCell {L : Addr} (i j : Nat) (h : i ≠ j) : L + i ≠ L + j := fun e => h (Nat.add_left_cancel e)
section
variable {h₀ h : Heap} {L c x Hp Gr Cr : Addr} {Z Z' : List (Addr × Obj)} {hc gc : Col} {nv v : Option Value} {rs : List Addr} {ks : Nat → Col}
theorem CorZ.mono (H : CorZ L c Hp Gr Cr hc gc nv rs ks Z) (hs : ∀ q ∈ Z, q ∈ Z') : CorZ L c Hp Gr Cr hc gc nv rs ks Z' :=
  ⟨H.cn.mono hs, H.ch.mono hs, H.cg.mono hs, H.cc.mono hs, H.hp.mono hs, H.gr.mono hs, H.cr.mono hs, fun j x e => (H.kr j x e).mono hs⟩
theorem CorZ.pullI {it : Value} {fs : Array Value} (H : CorZ L c Hp Gr Cr hc gc nv rs ks Z) (N : News h₀ L h Z) (hx : (x, (⟨it, none, .fields fs, #[]⟩ : Obj)) ∈ Z) (P : Pulls Z Z' x) : CorZ L c Hp Gr Cr hc gc nv rs ks Z' :=
  ⟨H.cn.pullI N hx P, H.ch.pullI N hx P, H.cg.pullI N hx P, H.cc.pullI N hx P, H.hp.pullI N hx P, H.gr.pullI N hx P, H.cr.pullI N hx P, fun j x e => (H.kr j x e).pullI N hx P⟩
theorem it_pullC {a : Addr} {it : Value} {fs : Array Value} (m : (a, (⟨it, none, .fields fs, #[]⟩ : Obj)) ∈ Z) (N : News h₀ L h Z) (hx : CellIs Z x v) (P : Pulls Z Z' x) : (a, (⟨it, none, .fields fs, #[]⟩ : Obj)) ∈ Z' :=
  let ⟨_, mx, dx⟩ := hx; P _ _ m (Ne.symm (news_ne N mx m (cell_not_it dx)))
/- one cell is turned -/
theorem CorZ.set_n {o' : Obj} {nv' : Option Value} {W : List (Addr × Obj)} (H : CorZ L c Hp Gr Cr hc gc nv rs ks Z) (N : News h₀ L h Z) (P : Pulls Z Z' (L + 1 + 1 + 1 + 1)) (d : o'.data = .cell nv') (hs : ∀ q ∈ (L + 1 + 1 + 1 + 1, o') :: Z', q ∈ W) :
    CorZ L c Hp Gr Cr hc gc nv' rs ks W :=
  have ts : ∀ q ∈ Z', q ∈ W := fun q hq => hs q (.tail _ hq)
  ⟨⟨_, hs _ (.head _), d⟩, (H.ch.pull P (ltCell 3 4 (by decide))).mono ts, (H.cg.pull P (ltCell 2 4 (by decide))).mono ts, (H.cc.pull P (ltCell 1 4 (by decide))).mono ts, (H.hp.pullC N H.cn P).mono ts, (H.gr.pullC N H.cn P).mono ts, (H.cr.pullC N H.cn P).mono ts, fun j x e => ((H.kr j x e).pullC N H.cn P).mono ts⟩
theorem CorZ.set_h {o' : Obj} {D : Addr} {hc' : Col} {W : List (Addr × Obj)} (H : CorZ L c Hp Gr Cr hc gc nv rs ks Z) (N : News h₀ L h Z) (P : Pulls Z Z' (L + 1 + 1 + 1)) (d : o'.data = .cell (some (.ref D))) (hs : ∀ q ∈ (L + 1 + 1 + 1, o') :: Z', q ∈ W) (hD : L3 W D hc') :
    CorZ L c D Gr Cr hc' gc nv rs ks W :=
  have ts : ∀ q ∈ Z', q ∈ W := fun q hq => hs q (.tail _ hq)
  ⟨(H.cn.pull P (ltCell 4 3 (by decide))).mono ts, ⟨_, hs _ (.head _), d⟩, (H.cg.pull P (ltCell 2 3 (by decide))).mono ts, (H.cc.pull P (ltCell 1 3 (by decide))).mono ts, hD, (H.gr.pullC N H.ch P).mono ts, (H.cr.pullC N H.ch P).mono ts, fun j x e => ((H.kr j x e).pullC N H.ch P).mono ts⟩
theorem CorZ.set_g {o' : Obj} {D : Addr} {gc' : Col} {W : List (Addr × Obj)} (H : CorZ L c Hp Gr Cr hc gc nv rs ks Z) (N : News h₀ L h Z) (P : Pulls Z Z' (L + 1 + 1)) (d : o'.data = .cell (some (.ref D))) (hs : ∀ q ∈ (L + 1 + 1, o') :: Z', q ∈ W) (hD : L3 W D gc') :
    CorZ L c Hp D Cr hc gc' nv rs ks W :=
  have ts : ∀ q ∈ Z', q ∈ W := fun q hq => hs q (.tail _ hq)
  ⟨(H.cn.pull P (ltCell 4 2 (by decide))).mono ts, (H.ch.pull P (ltCell 3 2 (by decide))).mono ts, ⟨_, hs _ (.head _), d⟩, (H.cc.pull P (ltCell 1 2 (by decide))).mono ts, (H.hp.pullC N H.cg P).mono ts, hD, (H.cr.pullC N H.cg P).mono ts, fun j x e => ((H.kr j x e).pullC N H.cg P).mono ts⟩
theorem CorZ.set_cr {n : Nat} {W : List (Addr × Obj)} (H : CorZ L c Hp Gr Cr hc gc nv rs ks Z) (P : ∀ a o, (a, o) ∈ Z → o ≠ listOf (rs.map Value.ref).toArray n → (a, o) ∈ Z') (hx : L3 Z x (ks rs.length))
    (hs : ∀ q ∈ (Cr, listOf ((rs.map Value.ref).toArray.push (.ref x)) (n + 1)) :: Z', q ∈ W) : CorZ L c Hp Gr Cr hc gc nv (rs ++ [x]) ks W :=
  have ts : ∀ q ∈ Z', q ∈ W := fun q hq => hs q (.tail _ hq)
  have pc : ∀ a v, CellIs Z a v → CellIs W a v := fun a v ⟨o, m, d⟩ => ⟨o, ts _ (P _ _ m (cell_not_list d)), d⟩
  have pl : ∀ a c, L3 Z a c → L3 W a c := fun a c ⟨p1, p2, p3, k, m⟩ => ⟨p1, p2, p3, k, ts _ (P _ _ m items_ne)⟩
  ⟨pc _ _ H.cn, pc _ _ H.ch, pc _ _ H.cg, pc _ _ H.cc, pl _ _ H.hp, pl _ _ H.gr,
    ⟨n + 1, by rw [List.map_append, List.map_singleton, ← List.push_toArray]; exact hs _ (.head _)⟩, fun j y e => by
      rcases Nat.lt_trichotomy j rs.length with hj | hj | hj
      · rw [List.getElem?_append_left hj] at e
        exact pl _ _ (H.kr j y e)
      · subst hj
        rw [List.getElem?_append_right (Nat.le_refl _), Nat.sub_self] at e
        cases e
        exact pl _ _ hx
      · rw [List.getElem?_eq_none (by rw [List.length_append, List.length_singleton]; lia)] at e; cases e⟩
theorem it_not_list {it : Value} {fs its : Array Value} {n : Nat} : (⟨it, none, .fields fs, #[]⟩ : Obj) ≠ listOf its n := fun e => by cases congrArg Obj.data e
theorem L3.of_eq {a : Addr} {c c' : Col} (e : c = c') (H : L3 Z a c) : L3 Z a c' := e ▸ H
end
end Mine
end
section
open PySem PySem.W PyProof.Rows PySem.Spec PySem.Calls PySem.Flt
set_option maxRecDepth 100000
set_option maxHeartbeats 0
namespace Mine
theorem pad_of_K3 : True := by
  w_top off
  trivial
theorem fillc1 : (hd.heap_39 = hd.heap_39) ∧ (PySem.Challenge.rw_zo0002_01 = PySem.Challenge.rw_zo0002_01) := by
  k_fill
  exact ⟨rfl, rfl⟩
local macro_rules | `(tactic| walk_at "m") => `(tactic| ((repeat with_reducible refine List.mem_cons_of_mem _ ?_); with_reducible assumption))
local macro_rules | `(tactic| k_mem) => `(tactic| first | walk_at "m" | with_reducible exact List.mem_cons_self | (with_reducible refine List.mem_cons_of_mem _ ?_; k_mem))
local macro_rules | `(tactic| k_all) => `(tactic| first | exact List.forall_mem_nil _ | exact Beside.ne (by assumption) | (refine List.forall_mem_cons.mpr ⟨(by k_ne), (by k_all)⟩))
local macro_rules | `(tactic| walk_at $k:str) => tbl [("CompSrc", true, [(``src_range, "R A A S DR RD zL ?")]), ("subscriptTail Name Name ref int", true, [(``item_base3, "A T oD oD ? w F"), (``item_led3, "A m oD oD ? w F"), (``item_base, "A s oD oD ET ? w F")]), ("subscriptTail Name Constant ref int", true, [(``item_led3, "A m oD oD ? w F")]),
  ("call ref", true, [(``less_use, "A A A A A ES r u M M ?")]), ("call builtin:list.append", true, [(``appendZ, "A A m S ?")])] k
/- what _law_corners gives back -/
noncomputable def CorR (xs : Nat → Col) (k : Nat) (h h' : Heap) (v : Value) : Prop :=
  ∃ (Z : List (Addr × Obj)) (t Cr x : Addr) (rs : List Addr) (n : Nat), v = .ref t ∧ (∀ p ∈ Z, h'.get? p.1 = some p.2 ∧ h.get? p.1 = none) ∧ (t, { cls := .type "tuple", data := .seq #[.ref Cr, .ref x] n }) ∈ Z ∧
    LR Z Cr rs ∧ rs.length = 6 ∧ (∀ (j : Nat) y, rs[j]? = some y → L3 Z y (Ks xs k (j + 4))) ∧ L3 Z x (mixC xs)
set_option maxHeartbeats 2000000 in
theorem corners_ok (w : World) (c : Addr) (X6 : Nat → Addr) (its : Array Value) (k : Nat) (hk : 1 ≤ k ∧ k ≤ 5) (xs : Nat → Col) (t2 : Tok) (u : Nat → Tok) :
    CtrN w 5 106 [.ref c, .int (k : Int) t2] (fun h => h.IsList c its ∧ (∀ j, j < 6 → its[j]? = some (.ref (X6 j))) ∧ ∀ j, j < 6 → h.IsList (X6 j) #[.int (xs j).1 (u (3 * j)), .int (xs j).2.1 (u (3 * j + 1)), .int (xs j).2.2 (u (3 * j + 2))]) (CorR xs k) := by
  refine' CtrN.bodyC [(Str.ofString "colours", .ref c), (Str.ofString "sixths", .int k t2)] ?k6 ?k7 ?k9 ?kB (by decide) ?kD ?c2 ?c3 ?c4 ?_
  case k6 => k_is
  case k7 => k_is
  case k9 => intro _; exact BindsTo.of_eq rfl
  case kB => exact rfl
  case kD => decide +kernel
  case c2 => exact rfl
  case c3 => exact rfl
  case c4 => exact rfl
  intro κ mean mg mb base s L' h' tk' cells' Q hdp hu hc F' N' Y' B' X' T' hret
  refine hide fun GG hGG => ?_
  obtain ⟨hc, hit, hx⟩ := hc
  k_cells Y'
  (try simp only [List.cons_append, List.nil_append] at N')
  have F2 : Fr s.heap L' h' (fun y => if y = Str.ofString "sixths" then some (.int k t2) else none) := F'
  clear F'
  rename_i o1 o2 o3 o4 d1 d2 d3 d4
  have e1 : o1.data = .cell none := d1
  have e2 : o2.data = .cell none := d2
  have e3 : o3.data = .cell none := d3
  have e4 : o4.data = .cell (some (.ref c)) := d4
  clear d1 d2 d3 d4
  refine hGG ?_
  clear hGG
  (try dsimp only)
  refine N_acons ?_
  k_steps
  refine N_acons ?_
  k_steps
  refine N_acons ?_
  k_steps
  refine N_cons (N_For ?_)
  k_steps
  refine iter_rangeN (n := 10) (by assumption) (by decide) (by decide) (by k_asm) (by k_asm) ?_
  intro I h1 F1 N1 l1
  refine N_turns 10 (fun (i : Nat) s' => ∃ nv, CorSt L' c k t2 (Hs xs i) (Gs xs k i) nv (i - 4) (fun j => Ks xs k (j + 4)) [(I, .type "range_iterator", #[rawInt (i : Int), rawInt (10 - (i : Int)), rawInt 1])] s s') ?turn ?fin 10 0 _ rfl (by omega) ?init
  case init =>
    refine' ⟨none, _, _, _, _, _, _, [], none, fr_cast F1 ?e, N1, ⟨⟨_, ?m1, ?d1⟩, ⟨_, ?m2, ?d2⟩, ⟨_, ?m3, ?d3⟩, ⟨_, ?m4, ?d4⟩, L3.of_eq (c := (0, 0, 0)) rfl ?m5, L3.of_eq (c := (0, 0, 0)) rfl ?m6, ⟨0, ?m7⟩, ?kr⟩, rfl, ?ex⟩
    case e =>
      intro y
      by_cases hy : y = Str.ofString "sixth"
      · subst hy; rfl
      · rw [if_neg hy]
    case m1 => k_mem
    case d1 => assumption
    case m2 => k_mem
    case d2 => assumption
    case m3 => k_mem
    case d3 => assumption
    case m4 => k_mem
    case d4 => assumption
    case m7 => exact .tail _ (.head _)
    case m5 => exact ⟨_, _, _, _, .tail _ (.tail _ (.head _))⟩
    case m6 => exact ⟨_, _, _, _, .tail _ (.tail _ (.tail _ (.head _)))⟩
    case kr => intro j x e; cases e
    case ex => intro q hq; rw [List.mem_singleton.mp hq]; exact .head _
  case fin =>
    rintro s' ⟨nv, h, tk, Z, Hp, Gr, Cr, rs, sg, F, N, H, hr, hI⟩
    have mI := hI _ (List.mem_singleton_self _)
    obtain ⟨Z1, N1, mv, be⟩ := news_pull N mI
    have H1 := H.pullI N mI mv
    refine end_rangeN (pre := []) rfl F N1 (by omega) be.ne ?_
    intro h2 F2 N2
    clear F N N1 mI mv H hI be
    refine ⟨rfl, ?_⟩
    replace N2 : News s.heap L' h2 Z1 := N2
    obtain ⟨oh, mh, dh⟩ := H1.ch
    obtain ⟨p1, p2, p3, nH, mp⟩ := H1.hp
    dsimp only
    refine N_acons ?_
    have hM : lessI ((Hs xs 10).1 - 0) ((Hs xs 10).2.1 - 0) ((Hs xs 10).2.2 - 0) = mixC xs := by
      rw [Int.sub_zero, Int.sub_zero, Int.sub_zero]; rfl
    k_steps
    rename Fr s.heap _ _ _ => F9
    rename News s.heap _ _ _ => N9
    have ts : ∀ a b d, ∀ q ∈ Z1, q ∈ a :: b :: d :: Z1 := fun a b d q hq => .tail _ (.tail _ (.tail _ hq))
    exact hret _ _ _ _ F9 ⟨_, _, Cr, _, rs, _, rfl, fun p hp => ⟨(N9 p hp).1, (N9 p hp).2.2⟩, .head _, H1.cr.mono (ts _ _ _), hr, fun j y e => (H1.kr j y e).mono (ts _ _ _), L3.of_eq hM ⟨_, _, _, _, .tail _ (.head _)⟩⟩
  case turn =>
    intro i hi s' hP Qt hQt
    obtain ⟨nv, h, tk, Z, Hp, Gr, Cr, rs, sg, F, N, H, hr, hI⟩ := hP
    have mI := hI _ (List.mem_singleton_self _)
    obtain ⟨Z1, N1, mv, be⟩ := news_pull N mI
    have H1 := H.pullI N mI mv
    clear hI mI mv H N
    refine' next_rangeN F N1 ?hl ?hU ?_
    case hU => exact Upd.head be.ne
    case hl => omega
    intro h2 t9 tk2 F2 N2
    refine ⟨_, rfl, wpAny_of_eq rfl ?_⟩
    dsimp only
    clear F N1 be
    replace H1 := H1.mono (Z' := (I, rIt ((i : Int) + 1) (10 - (i : Int) - 1)) :: Z1) (fun q hq => .tail _ hq)
    have mI : (I, rIt ((i : Int) + 1) (10 - (i : Int) - 1)) ∈ (I, rIt ((i : Int) + 1) (10 - (i : Int) - 1)) :: Z1 := .head _
    generalize (I, rIt ((i : Int) + 1) (10 - (i : Int) - 1)) :: Z1 = Z2 at *
    obtain ⟨on, mn, dn⟩ := H1.cn
    obtain ⟨Z3, N3, mv, be⟩ := news_pull N2 mn
    have K1 := fun o' W d hs => H1.set_n (o' := o') (nv' := some (.int (i : Int) t9)) (W := W) N2 mv d hs
    have mI3 := it_pullC mI N2 ⟨_, mn, dn⟩ mv
    k_steps
    rename Fr _ _ _ _ => F4
    rename News _ _ _ _ => N4
    rename _ = Data.cell _ => d4
    obtain ⟨Z4, N4, H4, mI4⟩ : ∃ Z4, News s.heap L' _ Z4 ∧ CorZ L' c Hp Gr Cr (Hs xs i) (Gs xs k i) (some (.int (i : Int) t9)) rs (fun j => Ks xs k (j + 4)) Z4 ∧ (I, rIt ((i : Int) + 1) (10 - (i : Int) - 1)) ∈ Z4 := ⟨_, N4, K1 _ _ d4 (fun q hq => hq), .tail _ mI3⟩
    clear K1 mI3 be d4
    dsimp only at F4 N4 ⊢
    refine N_seq (CorSt L' c k t2 (Hs xs (i + 1)) (Gs xs k i) (some (.int i t9)) (i - 4) (fun j => Ks xs k (j + 4)) [(I, .type "range_iterator", #[rawInt ((i : Int) + 1), rawInt (10 - (i : Int) - 1), rawInt 1])] s) ?s1 ?_
    case s1 =>
      intro Qs hQs
      obtain ⟨oh, mh, dh⟩ := H4.ch
      obtain ⟨Z5, N5, mv, be⟩ := news_pull N4 mh
      obtain ⟨on, mn, dn⟩ := H4.cn.pull mv (ltCell 4 3 (by decide))
      obtain ⟨oc, mc, dc⟩ := H4.cc.pull mv (ltCell 1 3 (by decide))
      obtain ⟨p1, p2, p3, nH, mp⟩ := H4.hp.pullC N4 H4.ch mv
      have mI5 := it_pullC mI4 N4 ⟨_, mh, dh⟩ mv
      by_cases h6 : i < 6
      · have eH : Hs xs (i + 1) = addC (Hs xs i) (xs i) := if_pos h6
        rw [eH] at hQs
        have K1 := fun (o' : Obj) (D : Addr) (W : List (Addr × Obj)) d hs hD => H4.set_h (D := D) (hc' := addC (Hs xs i) (xs i)) (o' := o') (W := W) N4 mv d hs hD
        refine N_of ?_
        k_steps
        refine ⟨fun g9 => ?_⟩
        (try dsimp only)
        refine rest_all 3 (fun q9 ys news => YI (fun j t => .int ([(Hs xs i).1, (Hs xs i).2.1, (Hs xs i).2.2].getD j 0 + [(xs i).1, (xs i).2.1, (xs i).2.2].getD j 0) t) q9 ys ∧ news = _) ?st ?fn 3 0 [] _ rfl ⟨YI.nil _, rfl⟩
        case st =>
          rintro q ys _ hq ⟨HI, rfl⟩ v I9 oI C9 oC D9 m₂ h9 tk9 E9 hv hC hx F9 N9 off ne Q9 hQ9
          obtain ⟨tt, ev⟩ := hv
          rw [Int.zero_add] at ev
          subst ev
          (try dsimp only)
          k_steps
          exact hQ9 _ _ (LCg.CompEnd.intro (by assumption) (by assumption) _ (fun q hq => hq) off True.intro ⟨HI.snoc, rfl⟩)
        case fn =>
          rintro ys _ ⟨HI, rfl⟩
          obtain ⟨t, rfl⟩ := HI.three
          (try dsimp only)
          k_steps
          rename Fr _ _ _ _ => F9
          rename News _ _ _ _ => N9
          rename _ = Data.cell _ => d9
          exact hQs _ ⟨_, _, _, _, Gr, Cr, rs, sg, F9, N9, K1 _ _ _ d9 (fun q hq => .tail _ hq) ⟨_, _, _, _, .head _⟩, hr, fun q hq => by rw [List.mem_singleton.mp hq]; exact .tail _ (.tail _ mI5)⟩
      · have eH : Hs xs (i + 1) = Hs xs i := if_neg h6
        rw [eH] at hQs
        refine N_of ?_
        k_steps
        exact hQs _ ⟨_, _, _, _, Gr, Cr, rs, sg, F4, N4, H4, hr, fun q hq => by rw [List.mem_singleton.mp hq]; exact mI4⟩
    clear mI4 H4 N4 F4
    refine CorSt.all fun h tk Z Hp Gr Cr rs sg F N H hr hI => ?_
    have mI := hI _ (List.mem_singleton_self _)
    clear hI
    refine N_seq (CorSt L' c k t2 (Hs xs (i + 1)) (rotN k (Gs xs k i)) (some (.int i t9)) (i - 4) (fun j => Ks xs k (j + 4)) [(I, .type "range_iterator", #[rawInt ((i : Int) + 1), rawInt (10 - (i : Int) - 1), rawInt 1])] s) ?s2 ?_
    case s2 =>
      intro Qs hQs
      refine N_For ?_
      k_steps
      rename Fr _ _ _ _ => F4
      rename News _ _ _ _ => N4
      refine iter_rangeN (n := k) (by assumption) (range_small5 k hk) (range_size5 k hk) F4 N4 ?_
      intro J h1 F1 N1 l1
      have hJI : I ≠ J := Nat.ne_of_lt (l1 _ mI)
      dsimp only
      refine N_turns k (fun (j : Nat) s'' => CorSt L' c k t2 (Hs xs (i + 1)) (rotN j (Gs xs k i)) (some (.int i t9)) (i - 4) (fun j => Ks xs k (j + 4)) [(J, .type "range_iterator", #[rawInt (j : Int), rawInt ((k : Int) - (j : Int)), rawInt 1]), (I, .type "range_iterator", #[rawInt ((i : Int) + 1), rawInt (10 - (i : Int) - 1), rawInt 1])] s s'') ?turn ?fin k 0 _ rfl (by omega) ?init
      case init =>
        refine ⟨_, _, _, Hp, Gr, Cr, rs, sg, F1, N1, H.mono (fun q hq => .tail _ hq), hr, fun q hq => ?_⟩
        rcases List.mem_cons.mp hq with rfl | hq
        · rw [show (k : Int) - ((0 : Nat) : Int) = k by omega]
          exact .head _
        · rw [List.mem_singleton.mp hq]; exact .tail _ mI
      case fin =>
        clear l1 F1 N1 F4 N4 H mI
        refine CorSt.all fun h tk Z Hp Gr Cr rs sg F N H hr hI => ?_
        have mJ := hI _ (List.mem_cons_self)
        have mI := hI _ (List.mem_cons_of_mem _ (List.mem_singleton_self _))
        obtain ⟨Z1, N1, mv, be⟩ := news_pull N mJ
        refine end_rangeN (pre := []) rfl F N1 (by omega) be.ne ?_
        intro h2 F2 N2
        exact ⟨rfl, hQs _ ⟨_, _, _, Hp, Gr, Cr, rs, sg, F2, N2, H.pullI N mJ mv, hr, fun q hq => by rw [List.mem_singleton.mp hq]; exact mv _ _ mI hJI⟩⟩
      case turn =>
        clear l1 F1 N1 F4 N4 H mI
        intro j hj
        refine CorSt.all fun h tk Z Hp Gr Cr rs sg F N H hr hI => ?_
        intro Qs hQs
        have mJ := hI _ (List.mem_cons_self)
        have mI := hI _ (List.mem_cons_of_mem _ (List.mem_singleton_self _))
        obtain ⟨Z1, N1, mv, be⟩ := news_pull N mJ
        have H1 := H.pullI N mJ mv
        have mI1 := mv _ _ mI hJI
        clear hI mI mJ mv H N
        refine' next_rangeN F N1 ?hl ?hU ?_
        case hU => exact Upd.head be.ne
        case hl => omega
        intro h2 t9' tk2 F2 N2
        refine ⟨_, rfl, wpAny_of_eq rfl ?_⟩
        dsimp only
        clear F N1 be
        replace H1 := H1.mono (Z' := (J, rIt ((j : Int) + 1) ((k : Int) - (j : Int) - 1)) :: Z1) (fun q hq => .tail _ hq)
        have mI := List.Mem.tail (J, rIt ((j : Int) + 1) ((k : Int) - (j : Int) - 1)) mI1
        have mJ : (J, rIt ((j : Int) + 1) ((k : Int) - (j : Int) - 1)) ∈ (J, rIt ((j : Int) + 1) ((k : Int) - (j : Int) - 1)) :: Z1 := .head _
        clear mI1
        generalize (J, rIt ((j : Int) + 1) ((k : Int) - (j : Int) - 1)) :: Z1 = Z2 at *
        obtain ⟨og, mg, dg⟩ := H1.cg
        obtain ⟨Z3, N3, mv, be⟩ := news_pull N2 mg
        have mI3 := it_pullC mI N2 ⟨_, mg, dg⟩ mv
        have mJ3 := it_pullC mJ N2 ⟨_, mg, dg⟩ mv
        obtain ⟨p1, p2, p3, nG, mp⟩ := H1.gr.pullC N2 H1.cg mv
        have K1 := fun (o' : Obj) (D : Addr) (W : List (Addr × Obj)) d hs hD => H1.set_g (D := D) (gc' := rotS (rotN j (Gs xs k i))) (o' := o') (W := W) N2 mv d hs hD
        k_steps
        refine N_acons ?_
        k_steps
        refine N_nil ?_
        rename Fr _ _ _ _ => F9
        rename News _ _ _ _ => N9
        rename _ = Data.cell _ => d9
        refine hQs _ ⟨_, _, _, Hp, _, Cr, rs, some (.int (j : Int) t9'), fr_cast F9 (fun y => ?_), N9, K1 _ _ _ d9 (fun q hq => .tail _ hq) ⟨_, _, _, _, .head _⟩, hr, fun q hq => ?_⟩
        · by_cases hy : y = Str.ofString "sixth"
          · rw [if_pos hy, if_pos hy]
          · rw [if_neg hy, if_neg hy, if_neg hy]
        · rcases List.mem_cons.mp hq with rfl | hq
          · rw [show (k : Int) - ((j + 1 : Nat) : Int) = (k : Int) - (j : Int) - 1 by omega]
            exact .tail _ (.tail _ mJ3)
          · rw [List.mem_singleton.mp hq]; exact .tail _ (.tail _ mI3)
    clear mI N F H
    refine CorSt.all fun h tk Z Hp Gr Cr rs sg F N H hr hI => ?_
    have mI := hI _ (List.mem_singleton_self _)
    clear hI
    refine N_seq (CorSt L' c k t2 (Hs xs (i + 1)) (Gs xs k (i + 1)) (some (.int i t9)) (i - 4) (fun j => Ks xs k (j + 4)) [(I, .type "range_iterator", #[rawInt ((i : Int) + 1), rawInt (10 - (i : Int) - 1), rawInt 1])] s) ?s3 ?_
    case s3 =>
      intro Qs hQs
      obtain ⟨og, mg, dg⟩ := H.cg
      obtain ⟨Z3, N3, mv, be⟩ := news_pull N mg
      obtain ⟨oh, mh, dh⟩ := H.ch.pull mv (ltCell 3 2 (by decide))
      obtain ⟨p1, p2, p3, nG, mp⟩ := H.gr.pullC N H.cg mv
      obtain ⟨q1, q2, q3, nH, mq⟩ := H.hp.pullC N H.cg mv
      have mI3 := it_pullC mI N ⟨_, mg, dg⟩ mv
      have K1 := fun (o' : Obj) (D : Addr) (W : List (Addr × Obj)) d hs hD => H.set_g (D := D) (gc' := Gs xs k (i + 1)) (o' := o') (W := W) N mv d hs hD
      refine N_of ?_
      k_steps
      refine ⟨fun g9 => ?_⟩
      (try dsimp only)
      refine rest_all 3 (fun q9 ys news => YI (fun j t => .int ([(rotN k (Gs xs k i)).1, (rotN k (Gs xs k i)).2.1, (rotN k (Gs xs k i)).2.2].getD j 0 + [(Hs xs (i + 1)).1, (Hs xs (i + 1)).2.1, (Hs xs (i + 1)).2.2].getD j 0) t) q9 ys ∧ news = _) ?st ?fn 3 0 [] _ rfl ⟨YI.nil _, rfl⟩
      case st =>
        rintro q ys _ hq ⟨HI, rfl⟩ v I9 oI C9 oC D9 m₂ h9 tk9 E9 hv hC hx F9 N9 off ne Q9 hQ9
        obtain ⟨tt, ev⟩ := hv
        rw [Int.zero_add] at ev
        subst ev
        (try dsimp only)
        k_steps
        exact hQ9 _ _ (LCg.CompEnd.intro (by assumption) (by assumption) _ (fun q hq => hq) off True.intro ⟨HI.snoc, rfl⟩)
      case fn =>
        rintro ys _ ⟨HI, rfl⟩
        obtain ⟨t, rfl⟩ := HI.three
        (try dsimp only)
        k_steps
        rename Fr _ _ _ _ => F9
        rename News _ _ _ _ => N9
        rename _ = Data.cell _ => d9
        exact hQs _ ⟨_, _, _, Hp, _, Cr, rs, sg, F9, N9, K1 _ _ _ d9 (fun q hq => .tail _ hq) ⟨_, _, _, _, .head _⟩, hr, fun q hq => by rw [List.mem_singleton.mp hq]; exact .tail _ (.tail _ mI3)⟩
    clear mI N F H
    refine CorSt.all fun h tk Z Hp Gr Cr rs sg F N H hr hI => ?_
    have mI := hI _ (List.mem_singleton_self _)
    clear hI
    refine N_seq (CorSt L' c k t2 (Hs xs (i + 1)) (Gs xs k (i + 1)) (some (.int i t9)) (i + 1 - 4) (fun j => Ks xs k (j + 4)) [(I, .type "range_iterator", #[rawInt ((i : Int) + 1), rawInt (10 - (i : Int) - 1), rawInt 1])] s) ?s4 ?_
    case s4 =>
      intro Qs hQs
      obtain ⟨on, mn, dn⟩ := H.cn
      obtain ⟨og, mg, dg⟩ := H.cg
      obtain ⟨p1, p2, p3, nG, mp⟩ := H.gr
      obtain ⟨nC, mC⟩ := H.cr
      have hz : (rs.map Value.ref).toArray.size ≤ sizeLine := by
        rw [List.size_toArray, List.length_map, hr]; exact Nat.le_trans (show i - 4 ≤ 8 by omega) (by decide)
      refine N_of ?_
      by_cases h3 : 3 < i
      · have hK : lessI ((Gs xs k (i + 1)).1 - 0) ((Gs xs k (i + 1)).2.1 - 0) ((Gs xs k (i + 1)).2.2 - 0) = Ks xs k (rs.length + 4) := by
          rw [hr, show i - 4 + 4 = i by omega, Int.sub_zero, Int.sub_zero, Int.sub_zero]; rfl
        k_steps
        rename Fr _ _ _ _ => F9
        rename News _ _ _ _ => N9
        rename (∀ a o, (a, o) ∈ _ → o ≠ _ → (a, o) ∈ _) => P9
        exact hQs _ ⟨_, _, _, Hp, Gr, Cr, _, sg, F9, N9, (H.mono (fun q hq => .tail _ (.tail _ hq))).set_cr P9 (L3.of_eq hK ⟨_, _, _, _, .head _⟩) (fun q hq => hq), by rw [List.length_append, List.length_singleton]; omega, fun q hq => by rw [List.mem_singleton.mp hq]; exact .tail _ (P9 _ _ (.tail _ (.tail _ mI)) it_not_list)⟩
      · k_steps
        exact hQs _ ⟨_, _, _, Hp, Gr, Cr, rs, sg, F, N, H, by omega, fun q hq => by rw [List.mem_singleton.mp hq]; exact mI⟩
    clear mI N F H
    refine CorSt.all fun h tk Z Hp Gr Cr rs sg F N H hr hI => ?_
    have mI := hI _ (List.mem_singleton_self _)
    refine N_nil (hQt _ ⟨some (.int i t9), _, _, _, Hp, Gr, Cr, rs, sg, F, N, H, hr, fun q hq => ?_⟩)
    rw [List.mem_singleton.mp hq, show (10 : Int) - ((i + 1 : Nat) : Int) = 10 - (i : Int) - 1 by omega]
    exact mI
end Mine
end
section
open PySem PySem.W PyProof.Rows PySem.Spec PySem.Calls PySem.Flt
set_option maxRecDepth 100000
namespace Mine
/- a list of n ints in the ledger -/
inductive IL (Z : List (Addr × Obj)) (a : Addr) (n : Nat) (f : Nat → Int) : Prop
  | mk (vs : List Value) (k : Nat) (m : (a, W.listOf vs.toArray k) ∈ Z) (hl : vs.length = n) (r : ∀ i, i < n → ∃ t, vs[i]? = some (.int (f i) t)) : IL Z a n f
/- a list of six colours in the ledger -/
inductive RC (Z : List (Addr × Obj)) (a : Addr) (c : Nat → Col) : Prop
  | mk (rs : List Addr) (l : LR Z a rs) (hl : rs.length = 6) (r : ∀ (j : Nat) x, rs[j]? = some x → L3 Z x (c j)) : RC Z a c
/- the texts of the zones in the ledger -/
inductive TX (Z : List (Addr × Obj)) (a : Addr) (e : Int → Int) : Prop
  | mk (its : Array Value) (u : Nat → Tok) (k : Nat) (m : (a, W.listOf its k) ∈ Z) (r : TextsAre e u its) : TX Z a e
/- a cell with something or nothing in it -/
inductive CellAny (Z : List (Addr × Obj)) (a : Addr) : Prop
  | mk (v : Option Value) (m : CellIs Z a v) : CellAny Z a
section
variable {h₀ h : Heap} {L a x : Addr} {Z Z' : List (Addr × Obj)} {v : Option Value} {n : Nat} {f : Nat → Int} {c : Nat → Col} {e : Int → Int}
theorem IL.mono (H : IL Z a n f) (hs : ∀ q ∈ Z, q ∈ Z') : IL Z' a n f := let ⟨vs, k, m, hl, r⟩ := H; ⟨vs, k, hs _ m, hl, r⟩
theorem RC.mono (H : RC Z a c) (hs : ∀ q ∈ Z, q ∈ Z') : RC Z' a c := let ⟨rs, l, hl, r⟩ := H; ⟨rs, l.mono hs, hl, fun j x q => (r j x q).mono hs⟩
theorem TX.mono (H : TX Z a e) (hs : ∀ q ∈ Z, q ∈ Z') : TX Z' a e := let ⟨its, u, k, m, r⟩ := H; ⟨its, u, k, hs _ m, r⟩
theorem CellAny.mono (H : CellAny Z a) (hs : ∀ q ∈ Z, q ∈ Z') : CellAny Z' a := let ⟨v, m⟩ := H; ⟨v, m.mono hs⟩
theorem CellAny.pull (H : CellAny Z a) (P : Pulls Z Z' x) (hne : a ≠ x) : CellAny Z' a := let ⟨v, m⟩ := H; ⟨v, m.pull P hne⟩
theorem IL.pullC (H : IL Z a n f) (N : News h₀ L h Z) (hx : CellIs Z x v) (P : Pulls Z Z' x) : IL Z' a n f :=
  let ⟨vs, k, m, hl, r⟩ := H; let ⟨_, mx, dx⟩ := hx; ⟨vs, k, P _ _ m (Ne.symm (news_ne N mx m (cell_not_list dx))), hl, r⟩
theorem RC.pullC (H : RC Z a c) (N : News h₀ L h Z) (hx : CellIs Z x v) (P : Pulls Z Z' x) : RC Z' a c :=
  let ⟨rs, l, hl, r⟩ := H; ⟨rs, l.pullC N hx P, hl, fun j y q => (r j y q).pullC N hx P⟩
theorem TX.pullC (H : TX Z a e) (N : News h₀ L h Z) (hx : CellIs Z x v) (P : Pulls Z Z' x) : TX Z' a e :=
  let ⟨its, u, k, m, r⟩ := H; let ⟨_, mx, dx⟩ := hx; ⟨its, u, k, P _ _ m (Ne.symm (news_ne N mx m (cell_not_list dx))), r⟩
end
theorem ints_at : ∀ {vs : List Value} {ns : List Int}, IntsAre vs ns → ∀ i, i < ns.length → ∃ t, vs[i]? = some (.int (ns.getD i 0) t)
  | _, _, .nil, _, h => absurd h (Nat.not_lt_zero _)
  | _, _, .cons n t _, 0, _ => ⟨t, rfl⟩
  | _, _, .cons _ _ r, i + 1, h => ints_at r i (Nat.lt_of_succ_lt_succ h)
theorem take_zeros (ns : List Int) (i : Nat) (hi : i < 7) : (ns.take 7 ++ (List.replicate (Int.toNat 7) [(0 : Int)]).flatten).getD i 0 = ns.getD i 0 := by
  have z : (List.replicate (Int.toNat 7) [(0 : Int)]).flatten = [0, 0, 0, 0, 0, 0, 0] := rfl
  rw [z, List.getD_eq_getElem?_getD, List.getD_eq_getElem?_getD]
  by_cases h : i < ns.length
  · rw [List.getElem?_append_left (by rw [List.length_take]; lia), List.getElem?_take_of_lt hi]
  · rw [List.getElem?_append_right (by rw [List.length_take]; lia), List.getElem?_eq_none (show ns.length ≤ i by lia)]
    generalize i - (ns.take 7).length = k
    match k with
    | 0 => rfl
    | 1 => rfl
    | 2 => rfl
    | 3 => rfl
    | 4 => rfl
    | 5 => rfl
    | 6 => rfl
    | k + 7 => rfl
/- what is drawn -/
noncomputable def drawnI (ns : List Int) (i : Nat) : Int := [3585, 240, 1950, 74, 2748, 1217, 53].getD i 0 + ns.getD i 0
theorem IL.seven {Z : List (Addr × Obj)} {a : Addr} {f : Nat → Int} (H : IL Z a 7 f) : ∃ (t : Nat → Tok) (k : Nat), (a, W.listOf #[.int (f 0) (t 0), .int (f 1) (t 1), .int (f 2) (t 2), .int (f 3) (t 3), .int (f 4) (t 4), .int (f 5) (t 5), .int (f 6) (t 6)] k) ∈ Z := by
  obtain ⟨vs, k, m, hl, hv⟩ := H
  obtain ⟨g, hg⟩ := Classical.axiomOfChoice (fun i => show ∃ t : Tok, i < 7 → vs[i]? = some (.int (f i) t) from if h : i < 7 then let ⟨t, e⟩ := hv i h; ⟨t, fun _ => e⟩ else ⟨0, fun q => absurd q h⟩)
  obtain rfl := eq_range hl fun i hi => hg i hi
  exact ⟨g, k, m⟩
/- a turn of a comprehension that makes one object -/
theorem CompEnd_new {h₀ : Heap} {L I C D aN : Addr} {m : Str → Option Value} {s₁ : Shared} {oI oC oD oN : Obj} {S : List (Addr × Obj) → Prop} {rest : Value → List (Addr × Obj) → Prop} {y : Value} {h' : Heap} {tk : Nat} {news : List (Addr × Obj)}
    (F : Fr h₀ L h' m) (N : News h₀ L h' ((aN, oN) :: (I, oI) :: (C, oC) :: (D, oD) :: news)) (h1 : @Ne Nat aN I) (h2 : @Ne Nat aN C) (h3 : @Ne Nat aN D) (off : LCg.Off3 I C D news) (hS : S ((aN, oN) :: news)) (r : rest y ((aN, oN) :: news)) :
    LCg.CompEnd h₀ L m s₁ I oI C oC D oD S rest y { s₁ with heap := h', toks := tk } :=
  LCg.CompEnd.intro F N ((aN, oN) :: news) (fun p hp => by
    rcases List.mem_cons.mp hp with rfl | hp
    · exact .tail _ (.head _)
    rcases List.mem_cons.mp hp with rfl | hp
    · exact .tail _ (.tail _ (.head _))
    rcases List.mem_cons.mp hp with rfl | hp
    · exact .tail _ (.tail _ (.tail _ (.head _)))
    rcases List.mem_cons.mp hp with rfl | hp
    · exact .head _
    · exact .tail _ (.tail _ (.tail _ (.tail _ hp)))) ⟨⟨h1, h2, h3⟩, off⟩ hS r
section
variable {α : Type} {a1 a2 a3 a4 a5 a6 a7 a8 a9 : α} {Z : List α}
theorem tl2 : ∀ q ∈ Z, q ∈ a1 :: a2 :: Z := fun q h => .tail _ (.tail _ h)
end
theorem rc_six {Z : List (Addr × Obj)} {a x0 x1 x2 x3 x4 x5 : Addr} {c : Nat → Col} {n : Nat} (hm : (a, W.listOf #[.ref x0, .ref x1, .ref x2, .ref x3, .ref x4, .ref x5] n) ∈ Z)
    (h0 : L3 Z x0 (c 0)) (h1 : L3 Z x1 (c 1)) (h2 : L3 Z x2 (c 2)) (h3 : L3 Z x3 (c 3)) (h4 : L3 Z x4 (c 4)) (h5 : L3 Z x5 (c 5)) : RC Z a c :=
  ⟨[x0, x1, x2, x3, x4, x5], ⟨n, hm⟩, rfl, fun j x e => by
    match j, e with
    | 0, e => cases e; exact h0
    | 1, e => cases e; exact h1
    | 2, e => cases e; exact h2
    | 3, e => cases e; exact h3
    | 4, e => cases e; exact h4
    | 5, e => cases e; exact h5⟩
/- an item of a written list of the ledger -/
theorem item_ledG {prog : Program} {w : World} {A : Around} {E : Value → Shared → Prop} {s : Shared} {h₀ : Heap} {L c : Addr} {news : List (Addr × Obj)} {its : Array Value} {n : Int} {t : Tok} {x : Value} {nn : Nat} {value slice : PySem.Expr} {Q : Value → Shared → Prop}
    (N : News h₀ L s.heap news) (hl : (c, W.listOf its nn) ∈ news) (h0 : 0 ≤ n) (hfit : n < 2 ^ 63) (hx : its[n.toNat]? = some x) (h : Q x s)
    (hs : subscripted slice false (.ref c) (.int n t) = operate [.ref c, .int n t] (getItem (.ref c) (.int n t)))
    (ht : ∀ r, letTemporaryGo value (.ref c) r = pure ()) :
    wpAny (model prog w) A (subscriptTail value slice (.ref c) (.int n t)) Q E s := by
  have hl' : s.heap.IsList c its := ⟨_, (N _ hl).1, rfl, nn, rfl⟩
  exact tail_of_ItemOn ⟨"list", _, slot_list_getitem.lookup, hl'.typeIs, wpAny_getItem_list hl' h0 hfit hx h⟩ hs ht
theorem item_seven6 {prog : Program} {w : World} {A : Around} {E : Value → Shared → Prop} {s : Shared} {h₀ : Heap} {L c : Addr} {news : List (Addr × Obj)} {v0 v1 v2 v3 v4 v5 v6 : Value} {t : Tok} {nn : Nat} {value slice : PySem.Expr} {Q : Value → Shared → Prop}
    (N : News h₀ L s.heap news) (hl : (c, W.listOf #[v0, v1, v2, v3, v4, v5, v6] nn) ∈ news) (h : Q v6 s)
    (hs : subscripted slice false (.ref c) (.int 6 t) = operate [.ref c, .int 6 t] (getItem (.ref c) (.int 6 t)))
    (ht : ∀ r, letTemporaryGo value (.ref c) r = pure ()) :
    wpAny (model prog w) A (subscriptTail value slice (.ref c) (.int 6 t)) Q E s := item_ledG N hl (by decide) (by decide) rfl h hs ht
theorem tl1 {α : Type} {a1 : α} {Z : List α} : ∀ q ∈ Z, q ∈ a1 :: Z := fun q h => .tail _ h
theorem led_list {h₀ h : Heap} {L l : Addr} {Z : List (Addr × Obj)} {its : Array Value} {n : Nat} (N : News h₀ L h Z) (hm : (l, W.listOf its n) ∈ Z) : h.IsList l its := ⟨_, (N _ hm).1, rfl, n, rfl⟩
theorem N_AssignT {M : Model} {A : Around} {s : Shared} {env : Env} {elts : List PySem.Expr} {k : Nat} {tpos pos : Pos} {value : PySem.Expr} {Q : Flow → Shared → Prop} (h : wpN M A (eval value env) (fun v s₁ => wpAny M A (assign (.Tuple elts k tpos) env v) (fun _ => Q .next) noE s₁) s)
    (hs : swapsWithSole [.Tuple elts k tpos] value pos.line env = pure false) (hw : swappedStores [.Tuple elts k tpos] value env = pure none) :
    wpN M A (exec (.Assign [.Tuple elts k tpos] value pos) env) Q s := by
  rw [exec_Assign]
  refine N_standAt ?_
  rw [hs]
  refine N_abind (wpAny_pure ?_)
  rw [if_neg (by decide)]
  refine N_bind (N_mono h fun v s₁ h₁ => ?_)
  rw [hw]
  refine N_abind (wpAny_pure ?_)
  show wpN M A (do assignAll v [assign (.Tuple elts k tpos) env]; pure .next) Q s₁
  exact N_abind (wpAny_mono h₁ (fun _ _ x => N_pure x) fun _ _ x => x)
theorem news_adds {h₀ h h' : Heap} {L : Addr} {m : Str → Option Value} {Z Y : List (Addr × Obj)} (F : Fr h₀ L h m) (N : News h₀ L h' Z) (hY : ∀ p ∈ Y, h'.get? p.1 = some p.2 ∧ h.get? p.1 = none) : News h₀ L h' (Y ++ Z) := fun p hp => by
  rcases List.mem_append.mp hp with hp | hp
  · exact news_add F N (hY p hp).2 (hY p hp).1 p (.head _)
  · exact N p hp
inductive RcPre (h : Heap) (a : Addr) (c : Nat → Col) : Prop
  | mk (X6 : Nat → Addr) (its : Array Value) (u : Nat → Tok) (p1 : h.IsList a its) (p2 : ∀ j, j < 6 → its[j]? = some (.ref (X6 j))) (p3 : ∀ j, j < 6 → h.IsList (X6 j) #[.int (c j).1 (u (3 * j)), .int (c j).2.1 (u (3 * j + 1)), .int (c j).2.2 (u (3 * j + 2))]) : RcPre h a c
theorem rc_pre {h₀ h : Heap} {L a : Addr} {Z : List (Addr × Obj)} {c : Nat → Col} (N : News h₀ L h Z) (H : RC Z a c) : RcPre h a c := by
  obtain ⟨rs, ⟨n, hm⟩, hl, hr⟩ := H
  have ex : ∀ j, ∃ p : Addr × Tok × Tok × Tok, j < 6 → rs[j]? = some p.1 ∧ h.IsList p.1 #[.int (c j).1 p.2.1, .int (c j).2.1 p.2.2.1, .int (c j).2.2 p.2.2.2] := fun j => by
    by_cases hj : j < 6
    · have e : rs[j]? = some rs[j] := List.getElem?_eq_getElem (by lia)
      obtain ⟨p1, p2, p3, k, mk⟩ := hr j _ e
      exact ⟨(rs[j], p1, p2, p3), fun _ => ⟨e, _, (N _ mk).1, rfl, k, rfl⟩⟩
    · exact ⟨(0, 0, 0, 0), fun h => absurd h hj⟩
  obtain ⟨g, hg⟩ := Classical.axiomOfChoice ex
  refine ⟨fun j => (g j).1, (rs.map Value.ref).toArray, fun i => if i % 3 = 0 then (g (i / 3)).2.1 else if i % 3 = 1 then (g (i / 3)).2.2.1 else (g (i / 3)).2.2.2, ⟨_, (N _ hm).1, rfl, n, rfl⟩, fun j hj => ?_, fun j hj => ?_⟩
  · rw [List.getElem?_toArray, List.getElem?_map, (hg j hj).1]; rfl
  · have := (hg j hj).2
    have e1 : 3 * j % 3 = 0 := by lia
    have e2 : (3 * j + 1) % 3 = 1 := by lia
    have e3 : (3 * j + 2) % 3 = 2 := by lia
    have f1 : 3 * j / 3 = j := by lia
    have f2 : (3 * j + 1) / 3 = j := by lia
    have f3 : (3 * j + 2) / 3 = j := by lia
    simp only [e1, e2, e3, f1, f2, f3, if_true, if_false, Nat.one_ne_zero, Nat.succ_ne_zero, show ¬ (2 = 0) by decide, show ¬ (2 = 1) by decide]
    exact this
noncomputable abbrev topA (dp un : Nat) (gd : Option (List Code)) : Around := { handled := none, depth := dp, frames := some [], guards := gd, units := un }
/- the law's def is entered -/
theorem code_lawK {prog : Program} {w : World} {s : Shared} {K : Frag} {mg mb : Str → Option Value} {p : Program} {loose : List Str} {mean : ExcName → Option Value} {Q : Flow → Shared → Prop} {name qual : Str} {params : Arguments} {body : List Stmt} {scope : Scope} {dV kV doc pm cdv ct oc : Value} {an od : Option Addr} {osl : Array (Option Value)} {f : Addr} {args : Args} {binds : List (Str × Value)}
    (X : K.In s.heap) (T : Top p loose mean mg mb s.heap) (ho : K.lookup f = some ⟨oc, od, .func (fnOf name qual params body scope dV kV doc pm an cdv ct), osl⟩) (hcd : codeIn K cdv qual = true)
    (hbind : BindsTo s (fnOf name qual params body scope dV kV doc pm an cdv ct) args binds) (hkind : (binds.all fun y => scope.names.lookup y.1 == some .local || scope.names.lookup y.1 == some .cell) = true)
    (hnd : ((cellsFrom 0 scope.names []).map (·.1)).Nodup)
    (h : ∀ L' h₁ tk cells, Fr s.heap L' h₁ (bindL (envOfC qual scope L' f cdv).kindOf binds fun _ => none) → News s.heap L' h₁ cells →
      CellsAre (bindC (envOfC qual scope L' f cdv).kindOf binds fun _ => none) (cellsFrom (L' + 1) scope.names []) cells → Below callerA s.heap [] s.heap →
      wpN (model prog w) (callerA.deeper (envOfC qual scope L' f cdv)) (execs body (envOfC qual scope L' f cdv))
        (fun fl s' => Q (.ret (match fl with | .ret v => v | _ => .none)) s') { s with heap := h₁, toks := tk })
    (hco : scope.isCoroutine = false) (hgen : scope.isGenerator = false) (hk : scope.kind = .function) : codeN (model prog w) callerA (.call (.ref f) args) Q s :=
  code_lawN T (X _ _ ho) rfl (codeRec_of X hcd) hbind hkind hnd h hco hgen hk
end Mine
end
section
open PySem PySem.W PyProof.Rows PySem.Spec PySem.Calls PySem.Flt
set_option maxRecDepth 100000
namespace Mine
theorem oct_ok (w : World) (c : Addr) (z r g b : Int) (u1 u2 u3 t2 : Tok) (hz : 1 ≤ z ∧ z ≤ 5) (hr : 0 ≤ r ∧ r ≤ 255) (hg : 0 ≤ g ∧ g ≤ 255) (hb : 0 ≤ b ∧ b ≤ 255) :
    CtrN w 3 96 [.ref c, .int z t2] (fun h => h.IsList c #[.int r u1, .int g u2, .int b u3]) (fun h h' v => New3 h h' v (octI z (r, g, b))) := by
  have h : z = 1 ∨ z = 2 ∨ z = 3 ∨ z = 4 ∨ z = 5 := by lia
  rcases h with rfl | rfl | rfl | rfl | rfl
  · exact octE (octs w c 1 2 r g b _ u1 u2 u3 t2 hr hg hb (.inl ⟨rfl, rfl, rfl⟩)) (congr (congrArg _ (i8f hg)) (congr (congrArg _ (i8f hb)) (i8f hr)))
  · exact octE (octs w c 2 1 r g b _ u1 u2 u3 t2 hr hg hb (.inr ⟨by decide, rfl, rfl⟩)) (congr (congrArg _ (i8 hb)) (congr (congrArg _ (i8 hr)) (i8 hg)))
  · exact octE (octs w c 3 0 r g b _ u1 u2 u3 t2 hr hg hb (.inl ⟨rfl, rfl, rfl⟩)) (congr (congrArg _ (i8f hr)) (congr (congrArg _ (i8f hg)) (i8f hb)))
  · exact octE (octs w c 4 2 r g b _ u1 u2 u3 t2 hr hg hb (.inr ⟨by decide, rfl, rfl⟩)) (congr (congrArg _ (i8 hg)) (congr (congrArg _ (i8 hb)) (i8 hr)))
  · exact octE (octs w c 5 1 r g b _ u1 u2 u3 t2 hr hg hb (.inl ⟨rfl, rfl, rfl⟩)) (congr (congrArg _ (i8f hb)) (congr (congrArg _ (i8f hr)) (i8f hg)))
theorem secZ_back {k e : Int} (hk : 1 ≤ k ∧ k ≤ 5) : ((secZ k e).fmod 86400).fdiv 14400 = k := by
  unfold secZ
  have h : k = 1 ∨ k = 2 ∨ k = 3 ∨ k = 4 ∨ k = 5 := by lia
  split <;> rcases h with rfl | rfl | rfl | rfl | rfl <;> decide
theorem secZ_or (k e : Int) : secZ k e = 14400 * k ∨ secZ k e = 14400 * k - 86400 := by
  unfold secZ; split
  · exact .inl rfl
  · exact .inr rfl
/- comparing rings -/
noncomputable abbrev cd (c : Col) : PyData := .list [.int c.1, .int c.2.1, .int c.2.2]
section
variable {h₀ h : Heap} {L a b x : Addr} {Z Z' : List (Addr × Obj)} {c c' : Nat → Col} {d : Col}
theorem l3_reads (N : News h₀ L h Z) (H : L3 Z a d) : Reads h (.ref a) (cd d) (a :: []) := by
  obtain ⟨p1, p2, p3, n, m⟩ := H
  exact reads_list_at (N _ m).1 rfl rfl (.cons (.int _ _) (.cons (.int _ _) (.cons (.int _ _) .nil)))
theorem rc_reads (N : News h₀ L h Z) (H : RC Z a c) : ∃ as, Reads h (.ref a) (.list [cd (c 0), cd (c 1), cd (c 2), cd (c 3), cd (c 4), cd (c 5)]) as := by
  obtain ⟨rs, ⟨n, m⟩, hl, hr⟩ := H
  obtain ⟨F, rfl⟩ := list_of (0 : Addr) hl
  exact ⟨_, reads_list_at (N _ m).1 rfl rfl (.cons (l3_reads N (hr 0 _ rfl)) (.cons (l3_reads N (hr 1 _ rfl)) (.cons (l3_reads N (hr 2 _ rfl)) (.cons (l3_reads N (hr 3 _ rfl)) (.cons (l3_reads N (hr 4 _ rfl)) (.cons (l3_reads N (hr 5 _ rfl)) .nil))))))⟩
theorem rc_eqv (a b d e f g : Col) : PyData.eqv (.list [cd a, cd b, cd d, cd e, cd f, cd g]) (.list [cd a, cd b, cd d, cd e, cd f, cd g]) = true := by
  simp [PyData.eqv, PyData.eqvAll]
theorem rc_shaped (a b d e f g : Col) : PySem.SeqAt.shaped (.list [cd a, cd b, cd d, cd e, cd f, cd g]) = true := rfl
/- two rings of the same colours are not told apart -/
theorem ne_rings {prog : Program} {w : World} {A : Around} {E : Value → Shared → Prop} {s : Shared} {Q : Value → Shared → Prop} (N : News h₀ L s.heap Z) (H : RC Z a c) (H' : RC Z b c') (he : ∀ k, k < 6 → c k = c' k) (hu : A.units + 64 < cLine)
    (h : Q (.bool false) s) : wpAny (model prog w) A (compareOp .NotEq (.ref a) (.ref b)) Q E s := by
  obtain ⟨as, ra⟩ := rc_reads N H
  obtain ⟨bs, rb⟩ := rc_reads N H'
  rw [← he 0 (by decide), ← he 1 (by decide), ← he 2 (by decide), ← he 3 (by decide), ← he 4 (by decide), ← he 5 (by decide)] at rb
  refine ne_dataH ra rb (rc_shaped ..) (rc_shaped ..) hu ?_
  rw [rc_eqv]
  exact h
end
/- the enumerated texts -/
noncomputable def EnZ (Z : List (Addr × Obj)) (E It S : Addr) (vs : List Value) (i : Nat) : Prop :=
  (∃ old : Value, (E, (⟨.type "enumerate", none, .fields #[.none, .bool false, .ref It, rawInt i, .none, old], #[]⟩ : Obj)) ∈ Z) ∧ (∃ o : Obj, (It, o) ∈ Z ∧ o.cls = .type "list_iterator" ∧ o.data = .fields #[.ref S, .int i 0]) ∧ ∃ c, (S, W.listOf vs.toArray c) ∈ Z
section
variable {h₀ h : Heap} {L x E It S : Addr} {Z Z' : List (Addr × Obj)} {v : Option Value} {vs : List Value} {i : Nat}
theorem EnZ.mono (H : EnZ Z E It S vs i) (hs : ∀ q ∈ Z, q ∈ Z') : EnZ Z' E It S vs i :=
  let ⟨⟨old, m1⟩, ⟨o, m2, r⟩, ⟨c, m3⟩⟩ := H; ⟨⟨old, hs _ m1⟩, ⟨o, hs _ m2, r⟩, ⟨c, hs _ m3⟩⟩
theorem EnZ.pullC (H : EnZ Z E It S vs i) (N : News h₀ L h Z) (hx : CellIs Z x v) (P : Pulls Z Z' x) : EnZ Z' E It S vs i :=
  let ⟨⟨old, m1⟩, ⟨o, m2, r1, r2⟩, ⟨c, m3⟩⟩ := H
  let ⟨_, mx, dx⟩ := hx
  ⟨⟨old, P _ _ m1 (Ne.symm (news_ne N mx m1 (cell_not_it dx)))⟩, ⟨o, P _ _ m2 (Ne.symm (news_ne N mx m2 fun e => by rw [e, r2] at dx; cases dx)), r1, r2⟩, ⟨c, P _ _ m3 (Ne.symm (news_ne N mx m3 (cell_not_list dx)))⟩⟩
/- the next pair of the enumerated texts -/
theorem enum_turn {prog : Program} {w : World} {A : Around} {s : Shared} {m : Str → Option Value} {elts : List PySem.Expr} {k : Nat} {pos : Pos} {v : Value} {K : Value → Shared → Prop} (hh : A.handled = none)
    (hEI : E ≠ It) (hSE : S ≠ E) (hSI : S ≠ It) (F : Fr h₀ L s.heap m) (N : News h₀ L s.heap Z) (H : EnZ Z E It S vs i) (hi : vs[i]? = some v)
    (hK : ∀ T t h' tk Z', Fr h₀ L h' m → News h₀ L h' Z' → EnZ Z' E It S vs (i + 1) → (∀ a o, (a, o) ∈ Z → a ≠ E → a ≠ It → (a, o) ∈ Z') → IsTup h' T #[.int (i : Int) t, v] → K (.ref T) { s with heap := h', toks := tk }) :
    wpAny (model prog w) A (pyNext (.ref E)) (fun r s₁ => ∃ v, r = some v ∧ wpAny (model prog w) A (letOwnedTupleGo (.Tuple elts k pos) (.ref E) v) (fun _ s₁' => K v s₁') noE s₁) noE s := by
  obtain ⟨⟨old, m1⟩, ⟨o, m2, r1, r2⟩, ⟨c, m3⟩⟩ := H
  have W := KTurns.ofWalksU (elts := elts) (k := k) (pos := pos) (WalksT.enumerate (prog := prog) (w := w) (A := A) hh E It S hEI hSE hSI vs.toArray).toU
  have zE := (N _ m1).2
  have zI := (N _ m2).2
  have hin : i < vs.toArray.size := by rw [List.size_toArray]; exact (List.getElem?_eq_some_iff.mp hi).1
  refine W.item i _ _ _ hin ⟨⟨old, (N _ m1).1⟩, ⟨o, (N _ m2).1, r1, r2⟩, ⟨_, (N _ m3).1, rfl, c, rfl⟩⟩ fun u h1 tk1 hMd hk1 => ⟨u, rfl, W.go i u _ _ _ hMd fun h2 hP hst hk2 => ?_⟩
  obtain ⟨T, vals, rfl, ⟨t, x, hx, rfl⟩, hT⟩ := hP
  have ex : x = v := by
    have h : vs.toArray[i]? = some x := hx
    rw [List.getElem?_toArray, hi] at h
    exact (Option.some.inj h).symm
  subst ex
  obtain ⟨⟨old2, hE2⟩, ⟨o2, hI2, q1, q2⟩, _⟩ := hst
  have kept : ∀ b ob, b ≠ E → b ≠ It → s.heap.get? b = some ob → h2.get? b = some ob := fun b ob n1 n2 e => by
    have nw : b ∉ [E, It] := fun hm => by
      rcases List.mem_cons.mp hm with rfl | hm
      · exact n1 rfl
      · exact n2 (List.mem_singleton.mp hm)
    exact hk2 b ob nw (hk1 b ob nw e)
  have F2 : Fr h₀ L h2 m := ⟨F.ns.at' fun ob e => kept L ob (Ne.symm zE.1) (Ne.symm zI.1) e, fun b ob e => kept b ob (fun q => by rw [q, zE.2] at e; cases e) (fun q => by rw [q, zI.2] at e; cases e) (F.keep b ob e), F.above⟩
  have keep : ∀ a ob, (a, ob) ∈ Z → a ≠ E → a ≠ It → (a, ob) ∈ (E, (⟨.type "enumerate", none, .fields #[.none, .bool false, .ref It, rawInt ((i : Int) + 1), .none, old2], #[]⟩ : Obj)) :: (It, o2) :: Z.filter (fun p => decide (p.1 ≠ E ∧ p.1 ≠ It)) := fun a ob hm n1 n2 => .tail _ (.tail _ (List.mem_filter.mpr ⟨hm, decide_eq_true ⟨n1, n2⟩⟩))
  refine hK T t h2 _ ((E, _) :: (It, o2) :: Z.filter (fun p => decide (p.1 ≠ E ∧ p.1 ≠ It))) F2 (fun p hp => ?_) ⟨⟨old2, .head _⟩, ⟨o2, .tail _ (.head _), q1, q2⟩, ⟨c, keep _ _ m3 hSE hSI⟩⟩ keep hT
  rcases List.mem_cons.mp hp with rfl | hp
  · exact ⟨hE2, zE⟩
  rcases List.mem_cons.mp hp with rfl | hp
  · exact ⟨hI2, zI⟩
  · obtain ⟨hm, hd⟩ := List.mem_filter.mp hp
    obtain ⟨n1, n2⟩ := of_decide_eq_true hd
    exact ⟨kept _ _ n1 n2 (N p hm).1, (N p hm).2⟩
end
end Mine
end
section
open PySem PySem.W PyProof.Rows PySem.Spec PySem.Calls PySem.Flt
set_option maxRecDepth 100000
namespace Mine
theorem tx_strs {e : Int → Int} {u : Nat → Tok} {its : Array Value} (h : TextsAre e u its) : StrsAre its.toList ([1, 2, 3, 4, 5].map fun k => zoneS k (e k)) ∧ its.toList.length = 5 := by
  obtain ⟨hs, ha⟩ := h
  obtain ⟨vs⟩ := its
  obtain rfl : vs = (List.range 5).map fun (j : Nat) => Value.str (zoneS ((j : Int) + 1) (e ((j : Int) + 1))) (u j) := eq_range hs fun j hj => (List.getElem?_toArray ..).symm.trans (ha j hj)
  exact ⟨.cons _ _ (.cons _ _ (.cons _ _ (.cons _ _ (.cons _ _ .nil)))), rfl⟩
theorem strs_at : ∀ {vs : List Value} {ss : List Str}, StrsAre vs ss → ∀ (i : Nat) x, ss[i]? = some x → ∃ t, vs[i]? = some (.str x t)
  | _, _, .nil, _, _, h => by simp at h
  | _, _, .cons y t _, 0, x, h => by cases h; exact ⟨t, rfl⟩
  | _, _, .cons _ _ r, i + 1, x, h => strs_at r i x h
/- sorted(texts, key=_strxfrm) in a frame of the law -/
theorem sorted_texts {w : World} {mean : ExcName → Option Value} {mg mb : Str → Option Value} {dp un : Nat} {gd : Option (List Code)} {cn : Str} {cs : Scope} {a : Addr} {ccd : Value} {cl : List (Str × Addr)} {outer : List Env} {A₀ : Around} {base h₀ : Heap} {L l : Addr} {m : Str → Option Value} {s : Shared} {Q E : Value → Shared → Prop}
    {Z : List (Addr × Obj)} {e : Int → Int} {u : Nat → Tok} {its : Array Value} {k : Nat}
    (B : Below A₀ base outer h₀) (F : Fr h₀ L s.heap m) (X : Frag.In (hd.heap_39 w.params) h₀) (N : News h₀ L s.heap Z) (T : Top V0 loose0 mean mg mb h₀) (hk : cs.kind = .function)
    (hd : dp + 10 < recursionLimit) (hu : un + 100 < cLine) (hm : (l, W.listOf its k) ∈ Z) (hT : TextsAre e u its) (he : ∀ k, 1 ≤ k ∧ k ≤ 5 → 0 ≤ e k ∧ e k ≤ 3)
    (h : ∀ D h' tk (vs : List Value) c (z : Nat → Int), Fr h₀ L h' m → News h₀ L h' ((D, W.listOf vs.toArray c) :: Z) → (∀ p ∈ Z, p.1 < D) → (∀ i, i < 5 → ∃ t, vs[i]? = some (.str (zoneS (z i) (e (z i))) t)) → vs.length = 5 →
      [z 0, z 1, z 2, z 3, z 4].Perm [1, 2, 3, 4, 5] → (∀ k, 1 ≤ k ∧ k ≤ 5 → rk k (e k) ≤ rk (z 4) (e (z 4))) → Q (.ref D) { s with heap := h', toks := tk }) :
    wpAny (model P0 w) (ktrTop dp un gd cn cs L a ccd cl outer) (call (.builtin "sorted") [.ref l] [(Str.ofString "key", .ref 72)]) Q E s := by
  obtain ⟨hS, hlen⟩ := tx_strs hT
  refine sorted_id (vs := its.toList) (ss := _) F N (led_list N hm) hS (by rw [hlen]; decide) (by rw [hlen]; decide) ?_ ?_
  · intro v hv h1 tk1 Y F1 N1
    obtain ⟨x, t, rfl⟩ := hS.all v hv
    k_dflt (refine' CtrB.use (strx_ok w x t) B F1 X N1 T hk ?k7 ?k8 trivial ?_)
    case k7 => simp only [depth_in1]; exact Nat.lt_of_le_of_lt (Nat.add_le_add_left (by decide) _) hd
    case k8 => ktr_units
    intro v' h' tk' F' N' R'
    exact ⟨R', h', tk', rfl, F', N'⟩
  · intro D h' tk vs' ss' c F' N' lt a1 a2 a3
    obtain ⟨z0, z1, z2, z3, z4, rfl, p, hmx⟩ := zones_sorted he a2 a3
    refine h D h' tk vs' c (fun i => [z0, z1, z2, z3, z4].getD i z4) F' N' lt (fun i hi => ?_) a1.length p hmx
    refine strs_at a1 i _ ?_
    match i, hi with
    | 0, _ => rfl
    | 1, _ => rfl
    | 2, _ => rfl
    | 3, _ => rfl
    | 4, _ => rfl
end Mine
end
section
open PySem PySem.W PyProof.Rows PySem.Spec PySem.Calls PySem.Flt
set_option maxRecDepth 100000
namespace Mine
/- what stands in the law's first loop -/
structure LpZ (L C M E It S : Addr) (vs : List Value) (l : Nat) (tl : Tok) (xs : Nat → Col) (R : Addr) (r : Nat → Col) (i : Nat) (Z : List (Addr × Obj)) : Prop where
  c2 : CellIs Z (L + 1 + 1) (some (.ref R))
  c3 : CellIs Z (L + 1 + 1 + 1) (some (.int (l : Int) tl))
  c4 : CellAny Z (L + 1 + 1 + 1 + 1)
  c5 : CellAny Z (L + 1 + 1 + 1 + 1 + 1)
  c6 : CellAny Z (L + 1 + 1 + 1 + 1 + 1 + 1)
  en : EnZ Z E It S vs i
  rc : RC Z R r
  kc : RC Z C (fun j => Ks xs l (j + 4))
  mx : L3 Z M (mixC xs)
section
variable {h₀ h : Heap} {L C M E It S R x : Addr} {vs : List Value} {l i : Nat} {tl : Tok} {xs r : Nat → Col} {Z Z' W : List (Addr × Obj)}
theorem LpZ.mono (H : LpZ L C M E It S vs l tl xs R r i Z) (hs : ∀ q ∈ Z, q ∈ Z') : LpZ L C M E It S vs l tl xs R r i Z' :=
  ⟨H.c2.mono hs, H.c3.mono hs, H.c4.mono hs, H.c5.mono hs, H.c6.mono hs, H.en.mono hs, H.rc.mono hs, H.kc.mono hs, H.mx.mono hs⟩
/- the cell of the drawn lists is turned -/
theorem LpZ.set4 {o' : Obj} {v' : Option Value} (H : LpZ L C M E It S vs l tl xs R r i Z) (N : News h₀ L h Z) (P : Pulls Z Z' (L + 1 + 1 + 1 + 1)) (d : o'.data = .cell v') (hs : ∀ q ∈ (L + 1 + 1 + 1 + 1, o') :: Z', q ∈ W) : LpZ L C M E It S vs l tl xs R r i W :=
  have ts : ∀ q ∈ Z', q ∈ W := fun q hq => hs q (.tail _ hq)
  let ⟨_, m4⟩ := H.c4
  ⟨(H.c2.pull P (ltCell 2 4 (by decide))).mono ts, (H.c3.pull P (ltCell 3 4 (by decide))).mono ts, ⟨_, _, hs _ (.head _), d⟩, (H.c5.pull P (ltCell 5 4 (by decide))).mono ts, (H.c6.pull P (ltCell 6 4 (by decide))).mono ts, (H.en.pullC N m4 P).mono ts, (H.rc.pullC N m4 P).mono ts, (H.kc.pullC N m4 P).mono ts, (H.mx.pullC N m4 P).mono ts⟩
/- the ring's cell is turned -/
theorem LpZ.set2 {o' : Obj} {R' : Addr} {r' : Nat → Col} (H : LpZ L C M E It S vs l tl xs R r i Z) (N : News h₀ L h Z) (P : Pulls Z Z' (L + 1 + 1)) (d : o'.data = .cell (some (.ref R'))) (hs : ∀ q ∈ (L + 1 + 1, o') :: Z', q ∈ W) (hR : RC W R' r') : LpZ L C M E It S vs l tl xs R' r' i W :=
  have ts : ∀ q ∈ Z', q ∈ W := fun q hq => hs q (.tail _ hq)
  have m2 := H.c2
  ⟨⟨_, hs _ (.head _), d⟩, (H.c3.pull P (ltCell 3 2 (by decide))).mono ts, (H.c4.pull P (ltCell 4 2 (by decide))).mono ts, (H.c5.pull P (ltCell 5 2 (by decide))).mono ts, (H.c6.pull P (ltCell 6 2 (by decide))).mono ts, (H.en.pullC N m2 P).mono ts, hR, (H.kc.pullC N m2 P).mono ts, (H.mx.pullC N m2 P).mono ts⟩
/- the next text is drawn -/
theorem LpZ.next (H : LpZ L C M E It S vs l tl xs R r i Z) (N : News h₀ L h Z) (P : ∀ a o, (a, o) ∈ Z → a ≠ E → a ≠ It → (a, o) ∈ Z') (en : EnZ Z' E It S vs (i + 1)) : LpZ L C M E It S vs l tl xs R r (i + 1) Z' := by
  obtain ⟨⟨old, mE⟩, ⟨o, mI, q1, q2⟩, _⟩ := H.en
  have cellE : ∀ a v, CellIs Z a v → CellIs Z' a v := fun a v ⟨oc, m, d⟩ => ⟨oc, P _ _ m (news_ne N m mE (cell_not_it d)) (news_ne N m mI fun e => by rw [e, q2] at d; cases d), d⟩
  have lstE : ∀ a its n, (a, W.listOf its n) ∈ Z → (a, W.listOf its n) ∈ Z' := fun a its n m => P _ _ m (news_ne N m mE fun e => by cases congrArg Obj.data e) (news_ne N m mI fun e => by have := congrArg Obj.data e; rw [q2] at this; cases this)
  have l3E : ∀ a c, L3 Z a c → L3 Z' a c := fun a c ⟨p1, p2, p3, n, m⟩ => ⟨p1, p2, p3, n, lstE _ _ _ m⟩
  have rcE : ∀ a c, RC Z a c → RC Z' a c := fun a c ⟨rs, ⟨n, m⟩, hl, hr⟩ => ⟨rs, ⟨n, lstE _ _ _ m⟩, hl, fun j x e => l3E _ _ (hr j x e)⟩
  have cA : ∀ a, CellAny Z a → CellAny Z' a := fun a ⟨v, m⟩ => ⟨v, cellE _ _ m⟩
  exact ⟨cellE _ _ H.c2, cellE _ _ H.c3, cA _ H.c4, cA _ H.c5, cA _ H.c6, en, rcE _ _ H.rc, rcE _ _ H.kc, l3E _ _ H.mx⟩
end
/- the first loop's state ahead of turn i -/
inductive LpM (L C M E It S : Addr) (vs : List Value) (l : Nat) (tl : Tok) (xs : Nat → Col) (z : Nat → Int) (i : Nat) (m : Str → Option Value) (Z : List (Addr × Obj)) : Prop
  | mk (mC : m (Str.ofString "corners") = some (.ref C)) (mM : m (Str.ofString "mixed") = some (.ref M)) (R : Addr) (r : Nat → Col) (H : LpZ L C M E It S vs l tl xs R r i Z)
    (ring : RingAt (15 * 2 ^ i) (keysOf xs) ([z 0, z 1, z 2, z 3, z 4].take i) r) (zero : 1 ≤ i → ∀ k, k < 6 → Zero (r k)) : LpM L C M E It S vs l tl xs z i m Z
noncomputable abbrev LpSt (L C M E It S : Addr) (vs : List Value) (l : Nat) (tl : Tok) (xs : Nat → Col) (z : Nat → Int) (i : Nat) (s s' : Shared) : Prop :=
  LSt L (LpM L C M E It S vs l tl xs z i) s s'
theorem perm_bd {z : Nat → Int} (h : [z 0, z 1, z 2, z 3, z 4].Perm [1, 2, 3, 4, 5]) (i : Nat) (hi : i < 5) : 1 ≤ z i ∧ z i ≤ 5 := by
  have hm : z i ∈ [z 0, z 1, z 2, z 3, z 4] := by
    match i, hi with
    | 0, _ => simp
    | 1, _ => simp
    | 2, _ => simp
    | 3, _ => simp
    | 4, _ => simp
  have := h.mem_iff.mp hm
  simp only [List.mem_cons, List.not_mem_nil, or_false] at this
  lia
/- enumerate of a list of the ledger -/
theorem enum_start {prog : Program} {w : World} {A : Around} {E₀ : Value → Shared → Prop} {s : Shared} {h₀ : Heap} {L D : Addr} {m : Str → Option Value} {Z : List (Addr × Obj)} {vs : List Value} {c : Nat} {K : Value → Shared → Prop}
    (F : Fr h₀ L s.heap m) (N : News h₀ L s.heap Z) (hm : (D, W.listOf vs.toArray c) ∈ Z)
    (h : ∀ (E It : Addr) h', Fr h₀ L h' m → (∃ Z', News h₀ L h' Z' ∧ (∀ q ∈ Z, q ∈ Z') ∧ EnZ Z' E It D vs 0) → E ≠ It → D ≠ E → D ≠ It → True → K (.ref E) { s with heap := h' }) :
    wpAny (model prog w) A (call (.type "enumerate") [.ref D]) (fun x s₁ => wpAny (model prog w) A (pyIter x) K E₀ s₁) E₀ s := by
  refine call_enumerate_list (led_list N hm) fun h1 hE hI hsz hk => ?_
  refine wpAny_pyIter_enum hE ?_
  have hlt := Heap.lt_size (N _ hm).1
  have hLs := F.ns.lt
  have fresh : ∀ k, s.heap.objs.size + k ≠ L ∧ h₀.get? (s.heap.objs.size + k) = none := fun k =>
    ⟨Nat.ne_of_gt (Nat.lt_of_lt_of_le hLs (Nat.le_add_right _ _)), Heap.get?_none_of_le (Nat.le_trans F.above (Nat.le_trans (Nat.le_of_lt hLs) (Nat.le_add_right _ _)))⟩
  obtain ⟨oI, hoI, q1, q2⟩ := hI
  refine h (s.heap.objs.size + 1) s.heap.objs.size h1 (F.keeps hk) ⟨(s.heap.objs.size + 1, _) :: (s.heap.objs.size, oI) :: Z, fun p hp => ?_, tl2, ⟨.none, .head _⟩, ⟨oI, .tail _ (.head _), q1, q2⟩, ⟨c, tl2 _ hm⟩⟩ (Nat.succ_ne_self _) (Nat.ne_of_lt (Nat.lt_succ_of_lt hlt)) (Nat.ne_of_lt hlt) trivial
  rcases List.mem_cons.mp hp with rfl | hp
  · exact ⟨hE, fresh 1⟩
  rcases List.mem_cons.mp hp with rfl | hp
  · exact ⟨hoI, fresh 0⟩
  · exact ⟨hk _ _ (N p hp).1, (N p hp).2⟩
/- the colours of the drawn numbers -/
noncomputable def xsOf (d : Nat → Int) (j : Nat) : Col := (((d j).fdiv 256).fmod 16, ((d j).fdiv 16).fmod 16, (d j).fmod 16)
theorem xsOf_bd (d : Nat → Int) (k : Nat) (_h : k < 6) : In0 15 (xsOf d k) := by
  unfold In0 xsOf
  dsimp only
  rw [Int.fmod_eq_emod_of_nonneg _ (by decide), Int.fmod_eq_emod_of_nonneg _ (by decide), Int.fmod_eq_emod_of_nonneg _ (by decide)]
  lia
/- the dress of a zone -/
noncomputable def eOf (d : Int) (k : Int) : Int := (d.fdiv (4 ^ (k - 1).toNat)).fmod 4
theorem eOf_bd (d : Int) (k : Int) (_h : 1 ≤ k ∧ k ≤ 5) : 0 ≤ eOf d k ∧ eOf d k ≤ 3 := by
  unfold eOf
  generalize d.fdiv (4 ^ (k - 1).toNat) = x
  rw [Int.fmod_eq_emod_of_nonneg _ (by decide)]
  lia
end Mine
end
section
open PySem PySem.W PyProof.Rows PySem.Spec PySem.Calls PySem.Flt
set_option maxRecDepth 100000
set_option maxHeartbeats 0
namespace Mine
theorem pad_of_M4 : True := by
  w_top off
  trivial
theorem fill4 : (hd.heap_39 = hd.heap_39) ∧ (PySem.Challenge.rw_zo0002_01 = PySem.Challenge.rw_zo0002_01) := by
  k_fill
  exact ⟨rfl, rfl⟩
/- tb_start: a def without cells is entered; tb_rel: a def with cells is entered -/

theorem noz_divI {x y z : Int} (hx : 0 ≤ x ∧ x ≤ 255) (hy : 0 ≤ y ∧ y ≤ 255) (hz : 0 ≤ z ∧ z ≤ 255) : NoZ (divI x 256) (divI y 256) (divI z 256) :=
  noz_pt (divI_pt (by lia)) (divI_pt (by lia)) (divI_pt (by lia)) (by unfold In255; lia)
theorem srcTup_ledger {prog : Program} {w : World} {A : Around} {h₀ : Heap} {L : Addr} {m : Str → Option Value} {env : Env} {elt : PySem.Expr} {x : Str} {scope : Scope} {cl : List (Str × Addr)} {Fin : Shared → List Value → List (Addr × Obj) → Prop} {ax : Addr} {its : Array Value} {k : Nat} {news : List (Addr × Obj)} {s₁ : Shared}
    (hh : A.handled = none) (F : Fr h₀ L s₁.heap m) (N : News h₀ L s₁.heap news) (hm : (ax, ({ cls := .type "tuple", data := .seq its k } : Obj)) ∈ news) (hsz : its.size ≤ sizeLine)
    (h : Hide (∀ g, LCg.CompRest prog w A h₀ L m env elt x scope cl { s₁ with heap := g } (SrcTup ax its) (fun i v => its[i]? = some v) (Fin { s₁ with heap := g }) its.size 0 [] news)) :
    CompSrcTup prog w A h₀ L m env elt x scope cl Fin (.ref ax) s₁ := CompSrcTup.ledger hh F N hm hsz h.out
theorem src_base {prog : Program} {w : World} {A : Around} {h₀ : Heap} {L : Addr} {m : Str → Option Value} {env : Env} {elt : PySem.Expr} {x : Str} {scope : Scope} {cl : List (Str × Addr)} {Fin : Shared → List Value → List (Addr × Obj) → Prop} {ax : Addr} {its : Array Value} {news : List (Addr × Obj)} {s₁ : Shared}
    (hh : A.handled = none) (F : Fr h₀ L s₁.heap m) (N : News h₀ L s₁.heap news) (hl : h₀.IsList ax its) (hsz : its.size ≤ sizeLine)
    (h : Hide (∀ g, LCg.CompRest prog w A h₀ L m env elt x scope cl { s₁ with heap := g } (LCg.SrcAt h₀ ax its) (fun i v => its[i]? = some v) (Fin { s₁ with heap := g }) its.size 0 [] news)) :
    LCg.CompSrc prog w A h₀ L m env elt x scope cl Fin (.ref ax) s₁ := LCg.CompSrc.base hh F N hl hsz h.out
theorem three_all {P : Int → Prop} {a b c : Int} (ha : P a) (hb : P b) (hc : P c) {i : Nat} (hi : i < 3) : P ([a, b, c].getD i 0) := by
  match i, hi with
  | 0, _ => exact ha
  | 1, _ => exact hb
  | 2, _ => exact hc
theorem three_itemF {a b c : UInt64} {w1 w2 w3 : Tok} {i : Nat} {v : Value} (hi : i < 3) (h : #[Value.float a w1, .float b w2, .float c w3][i]? = some v) : ∃ t, v = .float ([a, b, c].getD i 0) t := by
  match i, hi with
  | 0, _ => exact ⟨_, (Option.some.inj h).symm⟩
  | 1, _ => exact ⟨_, (Option.some.inj h).symm⟩
  | 2, _ => exact ⟨_, (Option.some.inj h).symm⟩
theorem three_allF {P : UInt64 → Prop} {a b c : UInt64} (ha : P a) (hb : P b) (hc : P c) {i : Nat} (hi : i < 3) : P ([a, b, c].getD i 0) := by
  match i, hi with
  | 0, _ => exact ha
  | 1, _ => exact hb
  | 2, _ => exact hc
section
variable {w : World} {mean : ExcName → Option Value} {mg mb : Str → Option Value} {dp un : Nat} {gd : Option (List Code)} {cn : Str} {cs : Scope} {a : Addr} {ccd : Value} {cl : List (Str × Addr)} {outer : List Env} {A₀ : Around} {base h₀ : Heap} {L : Addr} {m : Str → Option Value} {s : Shared} {Q E : Value → Shared → Prop} {news : List (Addr × Obj)} {t1 t2 t3 : Tok}
theorem hls_use {h l q : UInt64} (B : Below A₀ base outer h₀) (F : Fr h₀ L s.heap m) (X : Frag.In (hd.heap_39 w.params) h₀) (N : News h₀ L s.heap news) (T : Top V0 loose0 mean mg mb h₀) (hk : cs.kind = .function) (hd : dp + 2 < recursionLimit) (hu : un + 8 * 2 < cLine)
    (k : ∀ q9, backF h l q = q9 → ∀ x u1 u2 u3 (h' : Heap) (tk' : Nat), Fr h₀ L h' m → News h₀ L h' ((x, { cls := .type "tuple", data := .seq #[.float q9.1 u1, .float q9.2.1 u2, .float q9.2.2 u3] }) :: news) → Hide (∀ p ∈ news, p.1 ≠ x) → Q (.ref x) { s with heap := h', toks := tk' }) :
    wpAny (model P0 w) (ktrTop dp un gd cn cs L a ccd cl outer) (call (.ref 45) [.float h t1, .float l t2, .float q t3]) Q E s := CtrB.use3 (hls_ok w h l q t1 t2 t3) B F X N T hk hd hu fun x u1 u2 u3 h' tk' F' N' l1 => k _ rfl x u1 u2 u3 h' tk' F' N' ⟨l1⟩
theorem rgb_useI {x y z : Int} (B : Below A₀ base outer h₀) (F : Fr h₀ L s.heap m) (X : Frag.In (hd.heap_39 w.params) h₀) (N : News h₀ L s.heap news) (T : Top V0 loose0 mean mg mb h₀) (hk : cs.kind = .function) (hd : dp + 1 < recursionLimit) (hu : un + 8 * 1 < cLine) (hx : 0 ≤ x ∧ x ≤ 255) (hy : 0 ≤ y ∧ y ≤ 255) (hz : 0 ≤ z ∧ z ≤ 255)
    (k : ∀ p u1 u2 u3 (h' : Heap) (tk' : Nat), Fr h₀ L h' m → News h₀ L h' ((p, { cls := .type "tuple", data := .seq #[.float (hlsF (divI x 256) (divI y 256) (divI z 256)).1 u1, .float (hlsF (divI x 256) (divI y 256) (divI z 256)).2.1 u2, .float (hlsF (divI x 256) (divI y 256) (divI z 256)).2.2 u3] }) :: news) → Hide (∀ q ∈ news, q.1 ≠ p) → Q (.ref p) { s with heap := h', toks := tk' }) :
    wpAny (model P0 w) (ktrTop dp un gd cn cs L a ccd cl outer) (call (.ref 38) [.float (divI x 256) t1, .float (divI y 256) t2, .float (divI z 256) t3]) Q E s := CtrB.use3 (rgb_ok w _ _ _ t1 t2 t3 (noz_divI hx hy hz)) B F X N T hk hd hu fun x u1 u2 u3 h' tk' F' N' l1 => k x u1 u2 u3 h' tk' F' N' ⟨l1⟩
end
theorem ListComp_TupH {prog : Program} {w : World} {A : Around} {E : Value → Shared → Prop} {s : Shared} {h₀ : Heap} {L : Addr} {m : Str → Option Value} {env : Env} {elt : PySem.Expr} {x : Str} {px pos p1 p2 : Pos} {as : List PySem.Expr} {ks : List PySem.Keyword} {scope : Scope} {cl : List (Str × Addr)} {Q : Value → Shared → Prop} (F₀ : Fr h₀ L s.heap m)
    (hclos : closureFor scope env = pure cl) (hcell : ∀ y ∈ scope.names, y.2 ≠ .cell) (hkind : scope.kind = .function) (hnames : ∀ y ∈ scope.names, y.2 = .local → scope.names.lookup y.1 = some .local) (hx : scope.names.lookup x = some .local)
    (h : wpAny (model prog w) A (eval (.Call (.Name (Str.ofString "hls_to_rgb") p1) as ks p2) env) (CompSrcTup prog w A h₀ L m env elt x scope cl (fun s₂ => LCg.FinE h₀ L m s₂ Q)) E s) :
    wpAny (model prog w) A (eval (.ListComp elt [⟨.Name x px, .Call (.Name (Str.ofString "hls_to_rgb") p1) as ks p2, [], 0⟩] scope pos) env) Q E s := ListComp_Tup F₀ hclos hcell hkind hnames hx h
local macro_rules | `(tactic| walk_at $k:str) => tbl [("call ref", true, [(``hls_use, "A A A A A ES r u ?"), (``rgb_useI, "A A A A A ES r u S S S ?")]), ("eval ListComp", true, [(``ListComp_TupH, "! A R D R D R ?")]), ("CompSrcTup", true, [(``srcTup_ledger, "R A A M zL ?")]), ("CompSrc", true, [(``src_base, "R A A S zL ?")])] k
local macro_rules | `(tactic| lcg_src) => `(tactic| exact ⟨_, by k_mem⟩)
theorem nanNo {x : UInt64} (h : Fn x) (q : Float64.isNaN x = true) : False := by rw [not_nan_of_finite h] at q; cases q
theorem infNo {x : UInt64} (h : Fn x) (q : Float64.isInf x = true) : False := by rw [not_inf_of_finite h] at q; cases q
local macro_rules | `(tactic| k_ne) => `(tactic| grind only)
set_option maxHeartbeats 1000000 in
theorem hue_ok (w : World) (c : Addr) (r g b sec white k : Int) (u1 u2 u3 t1 t2 : Tok)
    (hr : 0 ≤ r + white ∧ r + white ≤ 255) (hg : 0 ≤ g + white ∧ g + white ≤ 255) (hb : 0 ≤ b + white ∧ b + white ≤ 255) (hk : 1 ≤ k ∧ k ≤ 5) (hs : sec = 14400 * k ∨ sec = 14400 * k - 86400) :
    CtrB w 3 91 [.ref c, .int sec t1, .int white t2] (fun h => h.IsList c #[.int r u1, .int g u2, .int b u3]) (fun h h' v => New3 h h' v (rotI k (r + white) (g + white) (b + white))) := by
  have hsb : -86400 ≤ sec ∧ sec ≤ 86400 := by lia
  have hid := PySem.Flt.Hid.mk (And.intro hk hs)
  clear hk hs
  refine' CtrB.bodyC [(Str.ofString "colour", .ref c), (Str.ofString "seconds", .int sec t1), (Str.ofString "white", .int white t2)] ?k6 ?k7 ?k9 ?kB (by decide) ?kD ?c2 ?c3 ?c4 ?_
  case k6 => k_is
  case k7 => k_is
  case k9 => intro _; exact BindsTo.of_eq rfl
  case kB => exact rfl
  case kD => decide +kernel
  case c2 => exact rfl
  case c3 => exact rfl
  case c4 => exact rfl
  intro κ mean mg mb base s L' h' tk' cells' Q E hdp hu hc F' N' Y' B' X' T' hret
  refine hide fun GG hGG => ?_
  k_cells Y'; (try simp only [List.cons_append, List.nil_append] at N')
  refine hGG ?_
  clear hGG
  (try dsimp only)
  k_steps
  refine ⟨fun g9 => ?_⟩
  (try dsimp only)
  refine rest_all 3 (fun i ys news => YI (fun j t => .float (divI ([r, g, b].getD j 0 + white) 256) t) i ys ∧ news = _) ?st ?fn 3 0 [] _ rfl ⟨YI.nil _, rfl⟩
  case st =>
    rintro i ys _ hi ⟨HI, rfl⟩ v I oI C oC D m₂ h9 tk9 E' hv hC hx F9 N9 off ne Q' hQ'
    obtain rfl := three_item (f := fun j => .int ([r, g, b].getD j 0) ([u1, u2, u3].getD j 0)) hi hv
    have hb9 := three_all (P := fun q => 0 ≤ q + white ∧ q + white ≤ 255) hr hg hb hi
    replace hb9 : 0 ≤ [r, g, b].getD i 0 + white ∧ [r, g, b].getD i 0 + white ≤ 255 := hb9
    clear hv
    (try dsimp only)
    k_steps
    exact hQ' _ _ (LCg.CompEnd.intro (by assumption) (by assumption) _ (fun q hq => hq) off (by first | exact True.intro | exact Or.inl (by assumption)) ⟨HI.snoc, rfl⟩)
  case fn =>
    rintro ys _ ⟨HI, rfl⟩
    obtain ⟨t, rfl⟩ : ∃ t : Nat → Tok, ys = [.float (divI (r + white) 256) (t 0), .float (divI (g + white) 256) (t 1), .float (divI (b + white) 256) (t 2)] := HI.three
    (try dsimp only)
    k_steps
    (rename backF _ _ _ = _ => hq8)
    rename UInt64 × UInt64 × UInt64 => q9
    obtain ⟨hk, hs⟩ := hid.out
    obtain ⟨p1, p2, p3⟩ := hue_pure (divI_pt (n := r + white) (by lia)) (divI_pt (n := g + white) (by lia)) (divI_pt (n := b + white) (by lia)) (by unfold In255; lia) sec k hk hs q9 hq8.symm
    have p1 := Hide.mk p1
    have p2 := Hide.mk p2
    have p3 := Hide.mk p3
    clear hk hs hq8
    refine ⟨fun g9 => ?_⟩
    (try dsimp only)
    refine rest_all 3 (fun i ys news => YI (fun j t => .int (toI (Float64.mul ([q9.1, q9.2.1, q9.2.2].getD j 0) C256)) t) i ys ∧ news = _) ?st2 ?fn2 3 0 [] _ rfl ⟨YI.nil _, rfl⟩
    case st2 =>
      rintro i ys _ hi ⟨HI, rfl⟩ v I oI C oC D m₂ h9 tk9 E' hv hC hx F9 N9 off ne Q' hQ'
      obtain ⟨w9, rfl⟩ := three_itemF hi hv
      clear hv
      have pF : Hide (Fn (Float64.mul ([q9.1, q9.2.1, q9.2.2].getD i 0) C256)) := ⟨three_allF (P := fun q => Fn (Float64.mul q C256)) p1.out.1 p2.out.1 p3.out.1 hi⟩
      (try dsimp only)
      k_steps
      all_goals first
        | ((with_reducible rename Float64.isNaN _ = true => hN); exact (nanNo pF.out hN).elim)
        | ((with_reducible rename Float64.isInf _ = true => hN); exact (infNo pF.out hN).elim)
        | exact hQ' _ _ (LCg.CompEnd.intro (by assumption) (by assumption) _ (fun q hq => hq) off (by lcg_src) ⟨HI.snoc, rfl⟩)
    case fn2 =>
      rintro ys _ ⟨HI, rfl⟩
      obtain ⟨t, rfl⟩ : ∃ t : Nat → Tok, ys = [.int (toI (Float64.mul q9.1 C256)) (t 0), .int (toI (Float64.mul q9.2.1 C256)) (t 1), .int (toI (Float64.mul q9.2.2 C256)) (t 2)] := HI.three
      (try dsimp only)
      k_steps
      (rename Fr s.heap _ _ _ => F9); (rename News s.heap _ _ _ => N9)
      exact hret _ _ _ _ F9 ⟨_, _, _, _, _, rfl, (N9 _ (.head _)).2.2, ((N9 _ (.head _)).1).trans (congrArg some (lst3 p1.out.2 p2.out.2 p3.out.2))⟩
end Mine
end
section
open PySem PySem.W PyProof.Rows PySem.Spec PySem.Calls PySem.Flt
set_option maxRecDepth 100000
namespace Mine
section
variable {h₀ h : Heap} {L C M E It S R x a : Addr} {vs : List Value} {l i : Nat} {tl : Tok} {xs r : Nat → Col} {Z Z' : List (Addr × Obj)}
/- a range's iterator is turned -/
theorem LpZ.pullI {fs : Array Value} (H : LpZ L C M E It S vs l tl xs R r i Z) (N : News h₀ L h Z) (hx : (x, (⟨.type "range_iterator", none, .fields fs, #[]⟩ : Obj)) ∈ Z) (P : Pulls Z Z' x) : LpZ L C M E It S vs l tl xs R r i Z' := by
  obtain ⟨⟨old, mE⟩, ⟨o, mI, q1, q2⟩, ⟨c, mS⟩⟩ := H.en
  have rcI : ∀ a c, RC Z a c → RC Z' a c := fun a c ⟨rs, lr, hl, hr⟩ => ⟨rs, lr.pullI N hx P, hl, fun j x e => (hr j x e).pullI N hx P⟩
  have cA : ∀ a, CellAny Z a → CellAny Z' a := fun a ⟨v, m⟩ => ⟨v, m.pullI N hx P⟩
  refine ⟨H.c2.pullI N hx P, H.c3.pullI N hx P, cA _ H.c4, cA _ H.c5, cA _ H.c6, ⟨⟨old, P _ _ mE (news_ne N mE hx fun e => ?_)⟩, ⟨o, P _ _ mI (news_ne N mI hx fun e => ?_), q1, q2⟩, ⟨c, P _ _ mS (news_ne N mS hx fun e => by cases congrArg Obj.data e)⟩⟩, rcI _ _ H.rc, rcI _ _ H.kc, H.mx.pullI N hx P⟩
  · have := congrArg Obj.cls e
    simp at this
  · have := congrArg Obj.cls e
    rw [q1] at this
    simp at this
/- a list of references, grown -/
theorem LpZ.app {rs : List Addr} {n : Nat} (H : LpZ L C M E It S vs l tl xs R r i Z) (hn : rs.length < 6) (hv : ∃ s t, vs[0]? = some (.str s t)) (P : ∀ a o, (a, o) ∈ Z → o ≠ W.listOf (rs.map Value.ref).toArray n → (a, o) ∈ Z') : LpZ L C M E It S vs l tl xs R r i Z' := by
  obtain ⟨⟨old, mE⟩, ⟨o, mI, q1, q2⟩, ⟨c, mS⟩⟩ := H.en
  have pc : ∀ a v, CellIs Z a v → CellIs Z' a v := fun a v ⟨o, m, d⟩ => ⟨o, P _ _ m (cell_not_list d), d⟩
  have pl : ∀ a c, L3 Z a c → L3 Z' a c := fun a c ⟨p1, p2, p3, k, m⟩ => ⟨p1, p2, p3, k, P _ _ m items_ne⟩
  have cA : ∀ a, CellAny Z a → CellAny Z' a := fun a ⟨v, m⟩ => ⟨v, pc _ _ m⟩
  have pr : ∀ a c, RC Z a c → RC Z' a c := fun a c ⟨rs', ⟨k, m⟩, hl, hr⟩ => ⟨rs', ⟨k, P _ _ m fun e => by
    have e1 := congrArg Obj.data e
    simp only [Data.seq.injEq] at e1
    have e2 := congrArg Array.size e1.1
    simp only [List.size_toArray, List.length_map] at e2
    lia⟩, hl, fun j x e => pl _ _ (hr j x e)⟩
  refine ⟨pc _ _ H.c2, pc _ _ H.c3, cA _ H.c4, cA _ H.c5, cA _ H.c6, ⟨⟨old, P _ _ mE fun e => by cases congrArg Obj.data e⟩, ⟨o, P _ _ mI (fun e => by have := congrArg Obj.data e; rw [q2] at this; cases this), q1, q2⟩, ⟨c, P _ _ mS fun e => ?_⟩⟩, pr _ _ H.rc, pr _ _ H.kc, pl _ _ H.mx⟩
  obtain ⟨s, t, hv⟩ := hv
  have e1 := congrArg Obj.data e
  simp only [Data.seq.injEq] at e1
  have e2 := congrArg (fun q => q[0]?) e1.1
  simp only [List.getElem?_toArray, hv, List.getElem?_map] at e2
  cases hrs : rs[0]? with
  | none => rw [hrs] at e2; cases e2
  | some y => rw [hrs] at e2; cases e2
end
/- max of three ints of the ledger -/
theorem max3 {prog : Program} {w : World} {A : Around} {E : Value → Shared → Prop} {s : Shared} {h₀ : Heap} {L c : Addr} {m : Str → Option Value} {news : List (Addr × Obj)} {d : Col} {u1 u2 u3 : Tok} {n : Nat} {Q : Value → Shared → Prop} (hh : A.handled = none)
    (F : Fr h₀ L s.heap m) (N : News h₀ L s.heap news) (hm : (c, W.listOf #[.int d.1 u1, .int d.2.1 u2, .int d.2.2 u3] n) ∈ news)
    (h : ∀ h' (t : Tok) tk, Fr h₀ L h' m → News h₀ L h' news → Q (.int (mx d) t) { s with heap := h', toks := tk }) :
    wpAny (model prog w) A (call (.builtin "max") [.ref c]) Q E s := by
  refine max_list_N (ns := [d.1, d.2.1, d.2.2]) hh F N (led_list N hm : s.heap.IsList c [Value.int d.1 u1, .int d.2.1 u2, .int d.2.2 u3].toArray) (.cons _ _ (.cons _ _ (.cons _ _ .nil))) (Nat.zero_lt_succ _) fun h' X t tk F' N' hX hb => ?_
  have e : mx d = X := by
    have b1 := hb d.1 (by simp)
    have b2 := hb d.2.1 (by simp)
    have b3 := hb d.2.2 (by simp)
    simp only [List.mem_cons, List.not_mem_nil, or_false] at hX
    unfold mx
    omega
  exact e ▸ h h' t tk F' N'
/- the white that a colour has room for -/
theorem white_bd (i : Nat) {B : Int} {c : Col} (hc : In0 B c) (hB : B ≤ 255) :
    (0 ≤ c.1 + ((i : Int).fmod 2 * (255 - mx c)) ∧ c.1 + ((i : Int).fmod 2 * (255 - mx c)) ≤ 255) ∧ (0 ≤ c.2.1 + ((i : Int).fmod 2 * (255 - mx c)) ∧ c.2.1 + ((i : Int).fmod 2 * (255 - mx c)) ≤ 255) ∧ (0 ≤ c.2.2 + ((i : Int).fmod 2 * (255 - mx c)) ∧ c.2.2 + ((i : Int).fmod 2 * (255 - mx c)) ≤ 255) := by
  have h2 : (i : Int).fmod 2 = 0 ∨ (i : Int).fmod 2 = 1 := by rw [Int.fmod_eq_emod_of_nonneg _ (by decide)]; omega
  unfold In0 at hc
  unfold mx
  rcases h2 with e | e <;> (rw [e]; omega)
section
variable {w : World} {mean : ExcName → Option Value} {mg mb : Str → Option Value} {dp un : Nat} {gd : Option (List Code)} {cn : Str} {cs : Scope} {a : Addr} {ccd : Value} {cl : List (Str × Addr)} {outer : List Env} {A₀ : Around} {base h₀ : Heap} {L : Addr} {m : Str → Option Value} {s : Shared} {Q E : Value → Shared → Prop}
  {news : List (Addr × Obj)} {c : Addr} {d : Col} {u1 u2 u3 t1 t2 : Tok} {n : Nat} {z e B : Int}
/- a call of _law_by_hue, the new list in the ledger -/
theorem hue_use (i : Nat) (Bl : Below A₀ base outer h₀) (F : Fr h₀ L s.heap m) (X : Frag.In (hd.heap_39 w.params) h₀) (N : News h₀ L s.heap news) (T : Top V0 loose0 mean mg mb h₀) (hk : cs.kind = .function)
  (hdp : dp + 3 < recursionLimit) (hu : un + 8 * 3 < cLine) (hm : (c, W.listOf #[.int d.1 u1, .int d.2.1 u2, .int d.2.2 u3] n) ∈ news) (hd : In0 B d) (hB : B ≤ 255) (hz : 1 ≤ z ∧ z ≤ 5)
  (h : ∀ (v : Addr) (h' : Heap) (tk' : Nat) (p1 p2 p3 : Tok) (k : Nat) (d' : Col), IsTurn z d d' → Fr h₀ L h' m → News h₀ L h' ((v, W.listOf #[.int d'.1 p1, .int d'.2.1 p2, .int d'.2.2 p3] k) :: news) → Q (.ref v) { s with heap := h', toks := tk' }) :
    wpAny (model P0 w) (ktrTop dp un gd cn cs L a ccd cl outer) (call (.ref 91) [.ref c, .int (secZ z e) t1, .int ((i : Int).fmod 2 * (255 - mx d)) t2]) Q E s := by
  obtain ⟨b1, b2, b3⟩ := white_bd i hd hB
  refine CtrB.use (hue_ok w c d.1 d.2.1 d.2.2 (secZ z e) ((i : Int).fmod 2 * (255 - mx d)) z u1 u2 u3 t1 t2 b1 b2 b3 hz (secZ_or z e)) Bl F X N T hk hdp hu (led_list N hm) fun v h' tk' F' N' r' => ?_
  obtain ⟨x', p1, p2, p3, k, rfl, hn, ho⟩ := r'
  exact h x' h' tk' p1 p2 p3 k _ (turn_hue hz) F' (news_add F N' hn ho)
/- a call of _law_by_octets, the new list in the ledger -/
theorem oct_use {Q : Value → Shared → Prop} (Bl : Below A₀ base outer h₀) (F : Fr h₀ L s.heap m) (X : Frag.In (hd.heap_39 w.params) h₀) (N : News h₀ L s.heap news) (T : Top V0 loose0 mean mg mb h₀) (hk : cs.kind = .function)
  (hdp : dp + 3 < recursionLimit) (hu : un + 8 * 3 < cLine) (hm : (c, W.listOf #[.int d.1 u1, .int d.2.1 u2, .int d.2.2 u3] n) ∈ news) (hd : In0 B d) (hB : B ≤ 255) (hz : 1 ≤ z ∧ z ≤ 5)
  (h : ∀ (v : Addr) (h' : Heap) (tk' : Nat) (p1 p2 p3 : Tok) (k : Nat) (d' : Col), IsTurn z d d' → Fr h₀ L h' m → News h₀ L h' ((v, W.listOf #[.int d'.1 p1, .int d'.2.1 p2, .int d'.2.2 p3] k) :: news) → Q (.ref v) { s with heap := h', toks := tk' }) :
    wpN (model P0 w) (ktrTop dp un gd cn cs L a ccd cl outer) (call (.ref 96) [.ref c, .int (((secZ z e).fmod 86400).fdiv 14400) t2]) Q s := by
  rw [secZ_back hz]
  unfold In0 at hd
  refine CtrN.use (oct_ok w c z d.1 d.2.1 d.2.2 u1 u2 u3 t2 hz ⟨by lia, by lia⟩ ⟨by lia, by lia⟩ ⟨by lia, by lia⟩) Bl F X N T hk hdp hu (led_list N hm) fun v h' tk' F' N' r' => ?_
  obtain ⟨x', p1, p2, p3, k, rfl, hn, ho⟩ := r'
  exact h x' h' tk' p1 p2 p3 k _ (turn_oct hz) F' (news_add F N' hn ho)
end
/- the colours' bound in a turn -/
theorem bd_turn {i : Nat} (hi : i < 5) : (15 * 2 ^ i : Int) ≤ 255 := by
  match i, hi with
  | 0, _ => decide
  | 1, _ => decide
  | 2, _ => decide
  | 3, _ => decide
  | 4, _ => decide
theorem LR.push {Z : List (Addr × Obj)} {a x : Addr} {rs : List Addr} {n : Nat} (m : (a, W.listOf ((rs.map Value.ref).toArray.push (.ref x)) n) ∈ Z) : LR Z a (rs ++ [x]) :=
  ⟨n, by rw [List.map_append, List.map_singleton, ← List.push_toArray]; exact m⟩
theorem turned_snoc {Z2 ZZ Z' : List (Addr × Obj)} {rs : List Addr} {tf r : Nat → Col} {j n : Nat} {v : Addr} {d : Col} {zi : Int} (hlr : rs.length = j) (hrs : ∀ (j : Nat) x, rs[j]? = some x → L3 Z2 x (tf j) ∧ IsTurn zi (r j) (tf j))
    (hZ : ∀ q ∈ Z2, q ∈ ZZ) (P : ∀ a o, (a, o) ∈ ZZ → o ≠ W.listOf (rs.map Value.ref).toArray n → (a, o) ∈ Z') (hv : L3 ZZ v d) (ht : IsTurn zi (r j) d) :
    ∀ (k : Nat) x, (rs ++ [v])[k]? = some x → L3 Z' x (if k = j then d else tf k) ∧ IsTurn zi (r k) (if k = j then d else tf k) := fun k x e => by
  have pl : ∀ a c, L3 ZZ a c → L3 Z' a c := fun a c ⟨p1, p2, p3, k, m⟩ => ⟨p1, p2, p3, k, P _ _ m items_ne⟩
  rcases Nat.lt_trichotomy k j with hk | hk | hk
  · rw [List.getElem?_append_left (by lia)] at e
    rw [if_neg (by lia)]
    exact ⟨pl _ _ ((hrs k x e).1.mono hZ), (hrs k x e).2⟩
  · subst hk
    rw [List.getElem?_append_right (by lia), show k - rs.length = 0 by lia] at e
    cases e
    rw [if_pos rfl]
    exact ⟨pl _ _ hv, ht⟩
  · rw [List.getElem?_eq_none (by rw [List.length_append, List.length_singleton]; lia)] at e; cases e
/- append to a list that a cell holds, of what a call gives in surroundings that hold no bytearray -/
theorem N_append_cell {prog : Program} {w : World} {A : Around} {s : Shared} {h₀ : Heap} {L a c D : Addr} {cn : Str} {cs : Scope} {ccd : Value} {cl : List (Str × Addr)} {Z : List (Addr × Obj)} {oc : Obj} {its : Array Value} {n : Nat} {nm : Str} {p apos pos : Pos} {elt : PySem.Expr} {Q : Value → Shared → Prop}
    (N : News h₀ L s.heap Z) (hc : cl.lookup nm = some c) (hm : (c, oc) ∈ Z) (hd : oc.data = .cell (some (.ref D))) (hl : (D, W.listOf its n) ∈ Z) (hk : cs.kind = .function) (hx : (envX cn cs L a ccd cl).kindOf nm = some .cell) (hb : (nm == ("__debug__" : Str)) = false)
    (hbase : attributeBase (.Name nm p) "append" (envX cn cs L a ccd cl) (eval (.Name nm p) (envX cn cs L a ccd cl)) = eval (.Name nm p) (envX cn cs L a ccd cl))
    (hfew : ((backTo pos (starEach [elt] (envX cn cs L a ccd cl))).all (fun x => !x.1) && (backToKw pos (keywordEach [] (envX cn cs L a ccd cl))).all (fun x => x.1.isSome)
      && decide (([elt] : List PySem.Expr).length + ([] : List Keyword).length + (if ([] : List Keyword).isEmpty then 0 else 1) < 30)) = true)
    (hline : (apos.endLine == pos.line) = true)
    (htrees : backTo pos (starEach [elt] (envX cn cs L a ccd cl)) = [(false, eval elt (envX cn cs L a ccd cl))])
    (h : wpN (model prog w) A (eval elt (envX cn cs L a ccd cl)) (fun y s₂ => wpAny (model prog w) A (call (.builtin "list.append") [.ref D, y]) Q noE s₂) s) :
    wpN (model prog w) A (eval (.Call (.Attribute (.Name nm p) "append" apos) [elt] [] pos) (envX cn cs L a ccd cl)) Q s :=
  N_append hbase hfew hline htrees (nameX_C N hc hm hd ⟨D, its, rfl, ⟨_, n, (N _ hl).1, rfl, rfl, rfl⟩, h⟩ hk hx hb)
end Mine
end
section
open PySem PySem.W PyProof.Rows PySem.Spec PySem.Calls PySem.Flt
set_option maxRecDepth 100000
namespace Mine
section
variable {w : World} {mean : ExcName → Option Value} {mg mb : Str → Option Value} {dp un : Nat} {gd : Option (List Code)} {cn : Str} {cs : Scope} {a : Addr} {ccd : Value} {cl : List (Str × Addr)} {outer : List Env} {A₀ : Around} {base h₀ : Heap} {L : Addr} {m : Str → Option Value} {s : Shared} {Q E : Value → Shared → Prop}
  {news : List (Addr × Obj)} {c e : Addr} {d f : Col} {u1 u2 u3 t1 t2 t3 : Tok} {n1 n2 : Nat}
/- a call of _law_less upon two colours, the new list in the ledger -/
theorem less_useF (B : Below A₀ base outer h₀) (F : Fr h₀ L s.heap m) (X : Frag.In (hd.heap_39 w.params) h₀) (N : News h₀ L s.heap news) (T : Top V0 loose0 mean mg mb h₀) (hk : cs.kind = .function)
  (hd : dp + 3 < recursionLimit) (hu : un + 8 * 3 < cLine) (hc : (c, W.listOf #[.int d.1 u1, .int d.2.1 u2, .int d.2.2 u3] n1) ∈ news) (he : (e, W.listOf #[.int f.1 t1, .int f.2.1 t2, .int f.2.2 t3] n2) ∈ news)
  (h : ∀ (v : Addr) (h' : Heap) (tk' : Nat) (p1 p2 p3 : Tok) (k : Nat), Fr h₀ L h' m → (∀ p ∈ news, p.1 ≠ v) → News h₀ L h' ((v, W.listOf #[.int (lessC d f).1 p1, .int (lessC d f).2.1 p2, .int (lessC d f).2.2 p3] k) :: news) → Q (.ref v) { s with heap := h', toks := tk' }) :
    wpAny (model P0 w) (ktrTop dp un gd cn cs L a ccd cl outer) (call (.ref 101) [.ref c, .ref e]) Q E s := by
  refine CtrB.use (less_ok w c e d.1 d.2.1 d.2.2 f.1 f.2.1 f.2.2 u1 u2 u3 t1 t2 t3) B F X N T hk hd hu ⟨led_list N hc, led_list N he⟩ fun v h' tk' F' N' r' => ?_
  obtain ⟨x', p1, p2, p3, k, rfl, hn, ho⟩ := r'
  exact h x' h' tk' p1 p2 p3 k F' (fun p hp q => by have := (N p hp).1; rw [q, hn] at this; cases this) (news_add F N' hn ho)
end
/- a turn of a comprehension that makes one object, by its freshness -/
theorem CompEnd_newF {h₀ : Heap} {L I C D aN : Addr} {m : Str → Option Value} {s₁ : Shared} {oI oC oD oN : Obj} {S : List (Addr × Obj) → Prop} {rest : Value → List (Addr × Obj) → Prop} {y : Value} {h' : Heap} {tk : Nat} {news : List (Addr × Obj)}
    (F : Fr h₀ L h' m) (N : News h₀ L h' ((aN, oN) :: (I, oI) :: (C, oC) :: (D, oD) :: news)) (hf : ∀ p ∈ (I, oI) :: (C, oC) :: (D, oD) :: news, p.1 ≠ aN) (off : LCg.Off3 I C D news) (hS : S ((aN, oN) :: news)) (r : rest y ((aN, oN) :: news)) :
    LCg.CompEnd h₀ L m s₁ I oI C oC D oD S rest y { s₁ with heap := h', toks := tk } :=
  CompEnd_new F N (Ne.symm (hf _ (.head _))) (Ne.symm (hf _ (.tail _ (.head _)))) (Ne.symm (hf _ (.tail _ (.tail _ (.head _))))) off hS r
/- a cell of the ledger is stored to -/
theorem storeZ {M : Model} {A : Around} {E : Value → Shared → Prop} {s : Shared} {h₀ : Heap} {L a : Addr} {m : Str → Option Value} {cn : Str} {cs : Scope} {ccd : Value} {cl : List (Str × Addr)} {x : Str} {v : Value} {Q : Unit → Shared → Prop} {Z : List (Addr × Obj)} {c : Addr} {o : Obj} {v₀ : Option Value}
    (F : Fr h₀ L s.heap m) (N : News h₀ L s.heap Z) (hc : cl.lookup x = some c) (hm : (c, o) ∈ Z) (hd : o.data = .cell v₀)
    (h : ∀ h' o' Z', Fr h₀ L h' m → News h₀ L h' ((c, o') :: Z') → o'.data = .cell (some v) → ((∀ b ob, (b, ob) ∈ Z → b ≠ c → (b, ob) ∈ Z') ∧ ∀ b ob, (b, ob) ∈ Z → (∀ v, ob.data ≠ .cell v) → (b, ob) ∈ Z') → Q () { s with heap := h' })
    (hk : cs.kind = .function) (hx : (envX cn cs L a ccd cl).kindOf x = some .cell) : wpAny M A (storeName (envX cn cs L a ccd cl) x v) Q E s := by
  obtain ⟨Z', N', P, be⟩ := news_pull N hm
  refine storeX_C F N' hc (.head be.ne) hd (fun h' o' F' N'' d' => h h' o' Z' F' N'' d' ⟨P, fun b ob hb hcell => P b ob hb (news_ne N hb hm fun e => by rw [e] at hcell; exact hcell _ hd)⟩) hk hx
section
variable {L C M E It S R R' : Addr} {vs : List Value} {l i : Nat} {tl : Tok} {xs r r' : Nat → Col} {Z Z' Y : List (Addr × Obj)}
theorem LpZ.set2Z {o' : Obj} (H : LpZ L C M E It S vs l tl xs R r i Z) (P : (∀ b ob, (b, ob) ∈ Z → b ≠ L + 1 + 1 → (b, ob) ∈ Z') ∧ ∀ b ob, (b, ob) ∈ Z → (∀ v, ob.data ≠ .cell v) → (b, ob) ∈ Z') (d : o'.data = .cell (some (.ref R')))
    (hs : ∀ q ∈ (L + 1 + 1, o') :: Z', q ∈ Y) (hR : RC Y R' r') : LpZ L C M E It S vs l tl xs R' r' i Y := by
  have ts : ∀ q ∈ Z', q ∈ Y := fun q hq => hs q (.tail _ hq)
  obtain ⟨⟨old, mE⟩, ⟨o, mI, q1, q2⟩, ⟨c, mS⟩⟩ := H.en
  have pl : ∀ a c, L3 Z a c → L3 Y a c := fun a c ⟨p1, p2, p3, k, m⟩ => ⟨p1, p2, p3, k, ts _ (P.2 _ _ m fun v e => by cases e)⟩
  have pr : ∀ a c, RC Z a c → RC Y a c := fun a c ⟨rs, ⟨n, m⟩, hl, hr⟩ => ⟨rs, ⟨n, ts _ (P.2 _ _ m fun v e => by cases e)⟩, hl, fun j x e => pl _ _ (hr j x e)⟩
  have pc : ∀ a v, a ≠ L + 1 + 1 → CellIs Z a v → CellIs Y a v := fun a v ha ⟨o, m, d⟩ => ⟨o, ts _ (P.1 _ _ m ha), d⟩
  have cA : ∀ a, a ≠ L + 1 + 1 → CellAny Z a → CellAny Y a := fun a ha ⟨v, m⟩ => ⟨v, pc _ _ ha m⟩
  exact ⟨⟨_, hs _ (.head _), d⟩, pc _ _ (ltCell 3 2 (by decide)) H.c3, cA _ (ltCell 4 2 (by decide)) H.c4, cA _ (ltCell 5 2 (by decide)) H.c5, cA _ (ltCell 6 2 (by decide)) H.c6,
    ⟨⟨old, ts _ (P.2 _ _ mE fun v e => by cases e)⟩, ⟨o, ts _ (P.2 _ _ mI fun v e => by rw [q2] at e; cases e), q1, q2⟩, ⟨c, ts _ (P.2 _ _ mS fun v e => by cases e)⟩⟩, hR, pr _ _ H.kc, pl _ _ H.mx⟩
end
theorem take_snoc {z : Nat → Int} {i : Nat} (hi : i < 5) : [z 0, z 1, z 2, z 3, z 4].take (i + 1) = [z 0, z 1, z 2, z 3, z 4].take i ++ [z i] := by
  match i, hi with
  | 0, _ => rfl
  | 1, _ => rfl
  | 2, _ => rfl
  | 3, _ => rfl
  | 4, _ => rfl
theorem ring_next {xs r tf : Nat → Col} {z : Nat → Int} {i : Nat} (hi : i < 5) (h : RingAt (15 * 2 ^ i) (keysOf xs) ([z 0, z 1, z 2, z 3, z 4].take i) r) (ht : ∀ k, k < 6 → IsTurn (z i) (r k) (tf k)) :
    RingAt (15 * 2 ^ (i + 1)) (keysOf xs) ([z 0, z 1, z 2, z 3, z 4].take (i + 1)) (fun k => lessC (r ((k + 1) % 6)) (tf k)) := by
  rw [take_snoc hi, show (15 * 2 ^ (i + 1) : Int) = 2 * (15 * 2 ^ i) by rw [Int.pow_succ]; lia]
  exact h.step ht
end Mine
end
section
open PySem PySem.W PyProof.Rows PySem.Spec PySem.Calls PySem.Flt
set_option maxRecDepth 100000
namespace Mine
/- what stands behind the law's first loop -/
structure LqZ (L C M R : Addr) (l : Nat) (tl : Tok) (xs r : Nat → Col) (Z : List (Addr × Obj)) : Prop where
  c2 : CellIs Z (L + 1 + 1) (some (.ref R))
  c3 : CellIs Z (L + 1 + 1 + 1) (some (.int (l : Int) tl))
  c5 : CellAny Z (L + 1 + 1 + 1 + 1 + 1)
  c6 : CellAny Z (L + 1 + 1 + 1 + 1 + 1 + 1)
  rc : RC Z R r
  kc : RC Z C (fun j => Ks xs l (j + 4))
  mx : L3 Z M (mixC xs)
section
variable {h₀ h : Heap} {L C M E It S R x : Addr} {vs : List Value} {l i : Nat} {tl : Tok} {xs r : Nat → Col} {Z Z' : List (Addr × Obj)}
theorem LqZ.mono (H : LqZ L C M R l tl xs r Z) (hs : ∀ q ∈ Z, q ∈ Z') : LqZ L C M R l tl xs r Z' :=
  ⟨H.c2.mono hs, H.c3.mono hs, H.c5.mono hs, H.c6.mono hs, H.rc.mono hs, H.kc.mono hs, H.mx.mono hs⟩
theorem LpZ.last (H : LpZ L C M E It S vs l tl xs R r i Z) (N : News h₀ L h Z) (P : ∀ a o, (a, o) ∈ Z → a ≠ E → a ≠ It → (a, o) ∈ Z') : LqZ L C M R l tl xs r Z' := by
  obtain ⟨⟨old, mE⟩, ⟨o, mI, q1, q2⟩, _⟩ := H.en
  have cellE : ∀ a v, CellIs Z a v → CellIs Z' a v := fun a v ⟨oc, m, d⟩ => ⟨oc, P _ _ m (news_ne N m mE (cell_not_it d)) (news_ne N m mI fun e => by rw [e, q2] at d; cases d), d⟩
  have lstE : ∀ a its n, (a, W.listOf its n) ∈ Z → (a, W.listOf its n) ∈ Z' := fun a its n m => P _ _ m (news_ne N m mE fun e => by cases congrArg Obj.data e) (news_ne N m mI fun e => by have := congrArg Obj.data e; rw [q2] at this; cases this)
  have l3E : ∀ a c, L3 Z a c → L3 Z' a c := fun a c ⟨p1, p2, p3, n, m⟩ => ⟨p1, p2, p3, n, lstE _ _ _ m⟩
  have rcE : ∀ a c, RC Z a c → RC Z' a c := fun a c ⟨rs, ⟨n, m⟩, hl, hr⟩ => ⟨rs, ⟨n, lstE _ _ _ m⟩, hl, fun j x e => l3E _ _ (hr j x e)⟩
  have cA : ∀ a, CellAny Z a → CellAny Z' a := fun a ⟨v, m⟩ => ⟨v, cellE _ _ m⟩
  exact ⟨cellE _ _ H.c2, cellE _ _ H.c3, cA _ H.c5, cA _ H.c6, rcE _ _ H.rc, rcE _ _ H.kc, l3E _ _ H.mx⟩
/- the end of the enumerated texts -/
theorem enum_end {prog : Program} {w : World} {A : Around} {s : Shared} {m : Str → Option Value} {elts : List PySem.Expr} {k : Nat} {pos : Pos} {K : Shared → Prop} (hh : A.handled = none)
    (hEI : E ≠ It) (hSE : S ≠ E) (hSI : S ≠ It) (F : Fr h₀ L s.heap m) (N : News h₀ L s.heap Z) (H : EnZ Z E It S vs i) (hi : vs.length = i)
    (hK : ∀ h' tk Z', Fr h₀ L h' m → News h₀ L h' Z' → (∀ a o, (a, o) ∈ Z → a ≠ E → a ≠ It → (a, o) ∈ Z') → K { s with heap := h', toks := tk }) :
    wpAny (model prog w) A (pyNext (.ref E)) (fun r s₁ => r = none ∧ K s₁) noE s := by
  obtain ⟨⟨old, m1⟩, ⟨o, m2, r1, r2⟩, ⟨c, m3⟩⟩ := H
  have W := KTurns.ofWalksU (elts := elts) (k := k) (pos := pos) (WalksT.enumerate (prog := prog) (w := w) (A := A) hh E It S hEI hSE hSI vs.toArray).toU
  have zE := (N _ m1).2
  have zI := (N _ m2).2
  subst hi
  refine W.done _ _ _ ⟨⟨old, (N _ m1).1⟩, ⟨o, (N _ m2).1, r1, r2⟩, ⟨_, (N _ m3).1, rfl, c, rfl⟩⟩ fun h' tk hk => ⟨rfl, ?_⟩
  have kept : ∀ b ob, b ≠ E → b ≠ It → s.heap.get? b = some ob → h'.get? b = some ob := fun b ob n1 n2 e => hk b ob (fun hm => by
    rcases List.mem_cons.mp hm with rfl | hm
    · exact n1 rfl
    · exact n2 (List.mem_singleton.mp hm)) e
  have F2 : Fr h₀ L h' m := ⟨F.ns.at' fun ob e => kept L ob (Ne.symm zE.1) (Ne.symm zI.1) e, fun b ob e => kept b ob (fun q => by rw [q, zE.2] at e; cases e) (fun q => by rw [q, zI.2] at e; cases e) (F.keep b ob e), F.above⟩
  refine hK h' tk (Z.filter (fun p => decide (p.1 ≠ E ∧ p.1 ≠ It))) F2 (fun p hp => ?_) fun a ob hm n1 n2 => List.mem_filter.mpr ⟨hm, decide_eq_true ⟨n1, n2⟩⟩
  obtain ⟨hm, hd⟩ := List.mem_filter.mp hp
  obtain ⟨n1, n2⟩ := of_decide_eq_true hd
  exact ⟨kept _ _ n1 n2 (N p hm).1, (N p hm).2⟩
end
/- the ring and the mixed colour six times are not told apart -/
theorem ne_mixed {prog : Program} {w : World} {A : Around} {E : Value → Shared → Prop} {s : Shared} {h₀ : Heap} {L R D D1 M : Addr} {Z : List (Addr × Obj)} {o1 : Obj} {n : Nat} {r : Nat → Col} {mix : Col} {Q : Value → Shared → Prop}
    (N : News h₀ L s.heap ((D, W.listOf #[Value.ref M, .ref M, .ref M, .ref M, .ref M, .ref M] n) :: (D1, o1) :: Z)) (H : RC Z R r) (HM : L3 Z M mix) (he : ∀ k, k < 6 → r k = mix) (hu : A.units + 64 < cLine)
    (h : Q (.bool false) s) : wpAny (model prog w) A (compareOp .NotEq (.ref R) (.ref D)) Q E s :=
  have hM := HM.mono (Z' := (D, W.listOf #[Value.ref M, .ref M, .ref M, .ref M, .ref M, .ref M] n) :: (D1, o1) :: Z) tl2
  ne_rings (c' := fun _ => mix) N (H.mono tl2) (rc_six (.head _) hM hM hM hM hM hM) he hu h
/- a list of one reference, six times -/
theorem six_mul {prog : Program} {w : World} {A : Around} {E : Value → Shared → Prop} {s : Shared} {h₀ : Heap} {L D M : Addr} {m : Str → Option Value} {Z : List (Addr × Obj)} {n : Nat} {t : Tok} {Q : Value → Shared → Prop}
    (F : Fr h₀ L s.heap m) (N : News h₀ L s.heap Z) (hm : (D, W.listOf #[Value.ref M] n) ∈ Z) (h : ∀ D' h', Fr h₀ L h' m → News h₀ L h' ((D', W.listOf #[Value.ref M, .ref M, .ref M, .ref M, .ref M, .ref M] 0) :: Z) → Q (.ref D') { s with heap := h' }) :
    wpAny (model prog w) A (binaryOp .Mult (.ref D) (.int 6 t)) Q E s :=
  mul_list F N (N _ hm).1 (by decide) (by decide) (by show 1 * 6 ≤ 2 ^ 24; decide) fun h' F' N' => h _ h' F' N'
/- what stands in the law's second loop -/
structure LrZ (L C : Addr) (l : Nat) (tl : Tok) (xs : Nat → Col) (D : Int) (td : Tok) (Z : List (Addr × Obj)) : Prop where
  c3 : CellIs Z (L + 1 + 1 + 1) (some (.int (l : Int) tl))
  c5 : CellIs Z (L + 1 + 1 + 1 + 1 + 1) (some (.int D td))
  c6 : CellAny Z (L + 1 + 1 + 1 + 1 + 1 + 1)
  kc : RC Z C (fun j => Ks xs l (j + 4))
section
variable {h₀ h : Heap} {L C M R x c : Addr} {l : Nat} {tl td : Tok} {xs r : Nat → Col} {D : Int} {Z Z' Y : List (Addr × Obj)}
theorem LrZ.mono (H : LrZ L C l tl xs D td Z) (hs : ∀ q ∈ Z, q ∈ Z') : LrZ L C l tl xs D td Z' := ⟨H.c3.mono hs, H.c5.mono hs, H.c6.mono hs, H.kc.mono hs⟩
noncomputable abbrev Stored (Z Z' : List (Addr × Obj)) (c : Addr) : Prop := (∀ b ob, (b, ob) ∈ Z → b ≠ c → (b, ob) ∈ Z') ∧ ∀ b ob, (b, ob) ∈ Z → (∀ v, ob.data ≠ .cell v) → (b, ob) ∈ Z'
theorem RC.stored {a : Addr} {f : Nat → Col} (H : RC Z a f) (P : Stored Z Z' c) : RC Z' a f :=
  let ⟨rs, ⟨n, m⟩, hl, hr⟩ := H
  ⟨rs, ⟨n, P.2 _ _ m fun v e => by cases e⟩, hl, fun j x e => let ⟨p1, p2, p3, k, m⟩ := hr j x e; ⟨p1, p2, p3, k, P.2 _ _ m fun v e => by cases e⟩⟩
theorem CellIs.stored {a : Addr} {v : Option Value} (H : CellIs Z a v) (P : Stored Z Z' c) (hne : a ≠ c) : CellIs Z' a v := let ⟨o, m, d⟩ := H; ⟨o, P.1 _ _ m hne, d⟩
theorem CellAny.stored {a : Addr} (H : CellAny Z a) (P : Stored Z Z' c) (hne : a ≠ c) : CellAny Z' a := let ⟨v, m⟩ := H; ⟨v, m.stored P hne⟩
/- the spread is stored -/
theorem LqZ.spread {o' : Obj} (H : LqZ L C M R l tl xs r Z) (P : Stored Z Z' (L + 1 + 1 + 1 + 1 + 1)) (d : o'.data = .cell (some (.int D td))) : LrZ L C l tl xs D td ((L + 1 + 1 + 1 + 1 + 1, o') :: Z') :=
  ⟨(H.c3.stored P (ltCell 3 5 (by decide))).mono tl1, ⟨_, .head _, d⟩, (H.c6.stored P (ltCell 6 5 (by decide))).mono tl1, (H.kc.stored P).mono tl1⟩
/- the list of places is stored -/
theorem LrZ.places {o' : Obj} {v : Option Value} (H : LrZ L C l tl xs D td Z) (P : Stored Z Z' (L + 1 + 1 + 1 + 1 + 1 + 1)) (d : o'.data = .cell v) : LrZ L C l tl xs D td ((L + 1 + 1 + 1 + 1 + 1 + 1, o') :: Z') :=
  ⟨(H.c3.stored P (ltCell 3 6 (by decide))).mono tl1, (H.c5.stored P (ltCell 5 6 (by decide))).mono tl1, ⟨_, _, .head _, d⟩, (H.kc.stored P).mono tl1⟩
theorem LrZ.pullI {it : Value} {fs : Array Value} (H : LrZ L C l tl xs D td Z) (N : News h₀ L h Z) (hx : (x, (⟨it, none, .fields fs, #[]⟩ : Obj)) ∈ Z) (P : Pulls Z Z' x) : LrZ L C l tl xs D td Z' :=
  ⟨H.c3.pullI N hx P, H.c5.pullI N hx P, let ⟨v, m⟩ := H.c6; ⟨v, m.pullI N hx P⟩, let ⟨rs, lr, hl, hr⟩ := H.kc; ⟨rs, lr.pullI N hx P, hl, fun j x e => (hr j x e).pullI N hx P⟩⟩
end
end Mine
end
section
open PySem PySem.W PyProof.Rows PySem.Spec PySem.Calls PySem.Flt
set_option maxRecDepth 100000
namespace Mine
/- the places that are told so far -/
noncomputable def PlOk (D : Int) (xs : Nat → Col) (l : Nat) (its : Array Value) (j : Nat) : Prop :=
  (D = 0 → its = #[]) ∧ (D ≠ 0 → its.size = j ∧ ∃ p : Nat → Int, ∀ i, i < j → (∃ t, its[i]? = some (.int (p i) t)) ∧ ∃ n : Int, p i = hueC (sideC xs l i) - 6 * (D * n))
theorem rc_at {Z : List (Addr × Obj)} {a : Addr} {f : Nat → Col} {rs : List Addr} (hl : rs.length = 6) (hr : ∀ (j : Nat) x, rs[j]? = some x → L3 Z x (f j)) (j : Nat) (hj : j < 6) : (rs.map Value.ref).toArray[j]? = some (.ref (rs.getD j 0)) ∧ L3 Z (rs.getD j 0) (f j) := by
  have hx : rs[j]? = some (rs.getD j 0) := by rw [List.getD_eq_getElem?_getD, List.getElem?_eq_getElem (by omega)]; rfl
  exact ⟨by rw [List.getElem?_toArray, List.getElem?_map, hx]; rfl, hr j _ hx⟩
end Mine
end
section
open PySem PySem.W PyProof.Rows PySem.Spec PySem.Calls PySem.Flt
set_option maxRecDepth 100000
namespace Mine
section
variable {prog : Program} {w : World} {A : Around} {E : Value → Shared → Prop} {s : Shared} {Q : Value → Shared → Prop} {t u : Tok}
/- an octet upon 256 -/
theorem div_255 {n : Int} (hA : A.handled = none) (hb : 0 ≤ n ∧ n ≤ 255) (h : Q (.float (divI n 256) s.toks) { s with toks := s.toks + 1 }) : wpAny (model prog w) A (binaryOp .Div (.int n t) (.int 256 u)) Q E s :=
  div_ii_fits hA (by lia) (fun h => absurd h (by decide)) (fun _ _ => h)
/- a float is told to be an int -/
theorem eqAt_fi {a : UInt64} {n : Int} (h : (Float64.cmpInt a n == some Ordering.eq) = true) : PySem.SeqAt.EqAt A s (.float a t) (.int n u) true := fun prog w E Q hq => by
  unfold eqBool
  refine wpAny_holding ?_
  refine wpAny_ite_split (fun hab => absurd (eq_of_beq hab) nofun) (fun _ => ?_)
  refine wpAny_bind (m := richCompare .Eq _ _) (eq_fi ?_)
  rw [h]
  exact wpAny_truthy_bool hq
/- two pairs, the one of floats, the other of ints, that are alike -/
theorem ne_pairs {h₀ : Heap} {L D1 D2 : Addr} {Z : List (Addr × Obj)} {a1 a2 : UInt64} {b1 b2 : Int} {t1 t2 u1 u2 : Tok} {o1 o2 : Obj} (N : News h₀ L s.heap Z)
    (m1 : (D1, o1) ∈ Z) (m2 : (D2, o2) ∈ Z) (e1 : o1 = { cls := .type "tuple", data := .seq #[.float a1 t1, .float a2 t2] }) (e2 : o2 = { cls := .type "tuple", data := .seq #[.int b1 u1, .int b2 u2] })
    (c1 : (Float64.cmpInt a1 b1 == some Ordering.eq) = true) (c2 : (Float64.cmpInt a2 b2 == some Ordering.eq) = true) (hu : A.units < cLine) (h : Q (.bool false) s) : wpAny (model prog w) A (compareOp .NotEq (.ref D1) (.ref D2)) Q E s := by
  subst e1 e2
  show wpAny _ A (richCompare .NotEq _ _) Q E s
  refine PySem.SeqAt.RcNeAt.tuples (e := fun _ => true) (items := #[.float a1 t1, .float a2 t2]) (items2 := #[.int b1 u1, .int b2 u2]) ⟨_, (N _ m1).1, rfl, _, rfl⟩ ⟨_, (N _ m2).1, rfl, _, rfl⟩ hu ?_ prog w E Q h
  intro j h1 h2
  match j, h1, h2 with
  | 0, _, _ => exact eqAt_fi c1
  | 1, _, _ => exact eqAt_fi c2
end
/- floats at ints -/
theorem ofInt_v {n : Int} (h : n.natAbs < 2 ^ 53) : Fn (Float64.ofInt n) ∧ v (Float64.ofInt n) = (n : Rat) := by
  have hr : Float64.Right (Float64.ofInt n) (decide (n < 0)) (n.natAbs * KN) 1 := by
    unfold Float64.ofInt
    exact Float64.ofFrac_right (n := n.natAbs) (d := 1) (W := n.natAbs * KN) (D := 1) (by decide) rfl (by decide)
  have h2 := right_just (B := 1074) (j := n.natAbs) hr (by lia) (by lia) h (by rw [Nat.one_mul]; rfl)
  refine ⟨h2.1, h2.2.trans ?_⟩
  rw [sg_abs]
  have e : E 1074 = 1 := KI_mul
  rw [e, Rat.mul_one]
theorem cmpInt_v {x : UInt64} {n : Int} (hx : Fn x) (h : v x = (n : Rat)) : Float64.cmpInt x n = some .eq := by
  obtain ⟨a, m, e, hd⟩ := fn_dec hx
  rw [Float64.cmpInt_right hd]
  have hK := KI_mul
  have h1 : (Float64.val x : Rat) = ((n * (2 ^ 1074 : Nat) : Int) : Rat) := by
    unfold v at h
    have : (Float64.val x : Rat) * KI * KN = (n : Rat) * KN := by rw [h]
    rw [Rat.intCast_mul]
    have e2 : (((2 ^ 1074 : Nat) : Int) : Rat) = (KN : Rat) := rfl
    rw [e2]
    grind
  have h2 : Float64.val x = n * (2 ^ 1074 : Nat) := Rat.intCast_inj.mp h1
  have h3 : (n * ((2 ^ 1074 : Nat) : Int)) = n * 2 ^ 1074 := by norm_cast
  rw [h2, h3]
  exact congrArg some (Std.compare_eq_iff_eq.mpr rfl)
/- what the law reads off a side -/
theorem side_plain {c : Col} {D : Int} (hz : Zero c) (h : In255 c.1 c.2.1 c.2.2) (hD : mx c = D) (h90 : D ≤ 90) :
    (D = 0 → (hlsF (divI c.1 256) (divI c.2.1 256) (divI c.2.2 256)).1 = 0) ∧
    (Float64.cmpInt (Float64.mul (hlsF (divI c.1 256) (divI c.2.1 256) (divI c.2.2 256)).2.1 (Float64.ofInt 512)) D == some Ordering.eq) = true ∧
    (Float64.cmpInt (hlsF (divI c.1 256) (divI c.2.1 256) (divI c.2.2 256)).2.2 (if D < 1 then D else 1) == some Ordering.eq) = true ∧
    (D ≠ 0 → ∃ n : Int, Fn (Float64.mul (Float64.mul (hlsF (divI c.1 256) (divI c.2.1 256) (divI c.2.2 256)).1 (Float64.ofInt 6)) (Float64.ofInt D)) ∧ toI (Float64.mul (Float64.mul (hlsF (divI c.1 256) (divI c.2.1 256) (divI c.2.2 256)).1 (Float64.ofInt 6)) (Float64.ofInt D)) = hueC c - 6 * (D * n)) := by
  obtain ⟨r, g, b⟩ := c
  dsimp only at *
  have hR := divI_pt (n := r) (by unfold In255 at h; lia)
  have hG := divI_pt (n := g) (by unfold In255 at h; lia)
  have hB := divI_pt (n := b) (by unfold In255 at h; lia)
  have hmin : min r (min g b) = 0 := by unfold Zero at hz; dsimp only at hz; lia
  have hmax : max r (max g b) = D := hD
  have h512 := ofInt_v (n := 512) (by decide)
  have hl := light_512 (S := Float64.ofInt 512) hR hG hB h hmin h512
  rw [hmax] at hl
  have e6 : Float64.ofInt 6 = SIX := by decide +kernel
  by_cases h0 : D = 0
  · have hh : hlsF (divI r 256) (divI g 256) (divI b 256) = (0, lumF (divI r 256) (divI g 256) (divI b 256), 0) := if_pos ((eq_mm hR hG hB).mpr (by rw [hmin, hmax, h0]))
    rw [hh]
    refine ⟨fun _ => rfl, ?_, ?_, fun hne => absurd h0 hne⟩
    · rw [cmpInt_v hl.1 hl.2]; rfl
    · subst h0; exact (by decide +kernel : (Float64.cmpInt 0 (if (0:Int) < 1 then 0 else 1) == some Ordering.eq) = true)
  · have hD0 : 0 ≤ D := by unfold Zero at hz; dsimp only at hz; lia
    have hh : hlsF (divI r 256) (divI g 256) (divI b 256) = (hueF (divI r 256) (divI g 256) (divI b 256), lumF (divI r 256) (divI g 256) (divI b 256), satF (divI r 256) (divI g 256) (divI b 256)) :=
      if_neg (fun q => h0 (by have := (eq_mm hR hG hB).mp q; lia))
    rw [hh]
    refine ⟨fun e => absurd e h0, ?_, ?_, fun _ => ?_⟩
    · rw [cmpInt_v hl.1 hl.2]; rfl
    · have hs := sat_one hR hG hB h hmin (by lia)
      rw [if_neg (by lia)]; exact (congrArg (· == some Ordering.eq) (cmpInt_v (n := 1) hs.1 hs.2)).trans rfl
    · rw [e6]
      exact place_ok hR hG hB h (by rw [hmin, hmax]; lia) (by rw [hmin, hmax]; lia) h90 (ofInt_v (by lia))
section
variable {prog : Program} {w : World} {A : Around} {E : Value → Shared → Prop} {s : Shared} {Q : Value → Shared → Prop} {t u : Tok}
/- a finite float is rounded -/
theorem round_fin {x : UInt64} (hA : A.handled = none) (hx : Fn x) (h : Q (.int (toI x) s.toks) { s with toks := s.toks + 1 }) : wpAny (model prog w) A (call (.builtin "round") [.float x t]) Q E s :=
  call_round_float hA (fun q => (nanNo hx q).elim) (fun q => (infNo hx q).elim) fun _ => h
theorem ne_zeroF (h : Q (.bool false) s) : wpAny (model prog w) A (compareOp .NotEq (.float 0 t) (.float 0 u)) Q E s :=
  AutoFloatOps.ne_0 (by rw [show (Float64.cmp 0 0 != some Ordering.eq) = false by decide +kernel]; exact h)
/- a thing is put to a list's end; all else is kept, by its address -/
theorem appendA {h₀ : Heap} {L D : Addr} {m : Str → Option Value} {Z : List (Addr × Obj)} {its : Array Value} {n : Nat} {x : Value}
    (F : Fr h₀ L s.heap m) (N : News h₀ L s.heap Z) (hm : (D, W.listOf its n) ∈ Z) (hsz : its.size ≤ sizeLine)
    (h : ∀ h' Z', Fr h₀ L h' m → News h₀ L h' ((D, W.listOf (its.push x) (n + 1)) :: Z') → (∀ a o, (a, o) ∈ Z → a ≠ D → (a, o) ∈ Z') → Q .none { s with heap := h' }) :
    wpAny (model prog w) A (call (.builtin "list.append") [.ref D, x]) Q E s := by
  obtain ⟨Z', N', P, be⟩ := news_pull N hm
  have z := N (D, _) hm
  refine append_at (hsz := hsz) z.1 fun h' hs hD => h h' Z' (F.change hs z.2.1 z.2.2) (fun p hp => ?_) fun a o ha ho => P a o ha ho
  rcases List.mem_cons.mp hp with rfl | hp
  · exact ⟨hD, z.2.1, z.2.2⟩
  · exact ⟨hs.extBut _ _ (be.ne p hp) (N' p (.tail _ hp)).1, (N' p (.tail _ hp)).2⟩
end
/- what stands in the law's second loop, with the list of places beside the corners -/
structure LtZ (L C Pl : Addr) (l : Nat) (tl : Tok) (xs : Nat → Col) (D : Int) (td : Tok) (Z : List (Addr × Obj)) : Prop where
  c3 : CellIs Z (L + 1 + 1 + 1) (some (.int (l : Int) tl))
  c5 : CellIs Z (L + 1 + 1 + 1 + 1 + 1) (some (.int D td))
  c6 : CellIs Z (L + 1 + 1 + 1 + 1 + 1 + 1) (some (.ref Pl))
  ne : C ≠ Pl
  kc : ∃ rs, LR Z C rs ∧ rs.length = 6 ∧ ∀ (j : Nat) x, rs[j]? = some x → L3 Z x (Ks xs l (j + 4)) ∧ x ≠ Pl
section
variable {h₀ h : Heap} {L C Pl x : Addr} {l : Nat} {tl td : Tok} {xs : Nat → Col} {D : Int} {Z Z' : List (Addr × Obj)}
theorem LtZ.mono (H : LtZ L C Pl l tl xs D td Z) (hs : ∀ q ∈ Z, q ∈ Z') : LtZ L C Pl l tl xs D td Z' :=
  ⟨H.c3.mono hs, H.c5.mono hs, H.c6.mono hs, H.ne, let ⟨rs, a, b, c⟩ := H.kc; ⟨rs, a.mono hs, b, fun j x e => ⟨(c j x e).1.mono hs, (c j x e).2⟩⟩⟩
theorem LtZ.pullI {it : Value} {fs : Array Value} (H : LtZ L C Pl l tl xs D td Z) (N : News h₀ L h Z) (hx : (x, (⟨it, none, .fields fs, #[]⟩ : Obj)) ∈ Z) (P : Pulls Z Z' x) : LtZ L C Pl l tl xs D td Z' :=
  ⟨H.c3.pullI N hx P, H.c5.pullI N hx P, H.c6.pullI N hx P, H.ne, let ⟨rs, a, b, c⟩ := H.kc; ⟨rs, a.pullI N hx P, b, fun j x e => ⟨(c j x e).1.pullI N hx P, (c j x e).2⟩⟩⟩
theorem LtZ.app {its : Array Value} {n : Nat} (H : LtZ L C Pl l tl xs D td Z) (N : News h₀ L h Z) (hx : (Pl, W.listOf its n) ∈ Z) (P : ∀ a o, (a, o) ∈ Z → a ≠ Pl → (a, o) ∈ Z') : LtZ L C Pl l tl xs D td Z' :=
  have cell : ∀ a v, CellIs Z a v → CellIs Z' a v := fun a v ⟨o, m, d⟩ => ⟨o, P _ _ m (news_ne N m hx (cell_not_list d)), d⟩
  ⟨cell _ _ H.c3, cell _ _ H.c5, cell _ _ H.c6, H.ne, let ⟨rs, ⟨k, a⟩, b, c⟩ := H.kc; ⟨rs, ⟨k, P _ _ a H.ne⟩, b, fun j x e => ⟨let ⟨p1, p2, p3, q, m⟩ := (c j x e).1; ⟨p1, p2, p3, q, P _ _ m (c j x e).2⟩, (c j x e).2⟩⟩⟩
theorem LrZ.toT (H : LrZ L C l tl xs D td Z) (N : News h₀ L h Z) (hc : CellIs Z (L + 1 + 1 + 1 + 1 + 1 + 1) (some (.ref Pl))) (hx : (Pl, W.listOf #[] 0) ∈ Z) : LtZ L C Pl l tl xs D td Z :=
  ⟨H.c3, H.c5, hc, let ⟨rs, ⟨k, a⟩, b, c⟩ := H.kc; news_ne N a hx (fun e => by
      have e1 := congrArg Obj.data e
      simp only [W.listOf, Data.seq.injEq] at e1
      have e2 := congrArg Array.size e1.1
      simp [b] at e2),
    let ⟨rs, lr, b, c⟩ := H.kc; ⟨rs, lr, b, fun j x e => ⟨c j x e, let ⟨p1, p2, p3, q, m⟩ := c j x e; news_ne N m hx (fun e => by
      have e1 := congrArg Obj.data e
      simp [W.listOf] at e1)⟩⟩⟩
end
theorem PlOk.zero {D : Int} {xs : Nat → Col} {l j : Nat} {its : Array Value} (h : PlOk D xs l its j) (h0 : D = 0) : PlOk D xs l its (j + 1) := ⟨h.1, fun hn => absurd h0 hn⟩
theorem PlOk.push {D n q : Int} {xs : Nat → Col} {l j : Nat} {its : Array Value} {t : Tok} (h : PlOk D xs l its j) (h0 : D ≠ 0) (e : q = hueC (sideC xs l j) - 6 * (D * n)) : PlOk D xs l (its.push (.int q t)) (j + 1) := by
  refine ⟨fun hz => absurd hz h0, fun _ => ?_⟩
  obtain ⟨hs, p, hp⟩ := h.2 h0
  refine ⟨by rw [Array.size_push, hs], fun i => if i = j then q else p i, fun i hi => ?_⟩
  dsimp only
  by_cases hij : i = j
  · subst hij
    rw [if_pos rfl]
    refine ⟨⟨t, ?_⟩, n, e⟩
    rw [← hs, Array.getElem?_push_size]
  · rw [if_neg hij]
    obtain ⟨⟨u, hu⟩, k, hk⟩ := hp i (by lia)
    refine ⟨⟨u, ?_⟩, k, hk⟩
    rw [Array.getElem?_push, if_neg (by lia)]
    exact hu
theorem places_f {xs : Nat → Col} {l : Nat} {D : Int} (hl : 1 ≤ l ∧ l ≤ 5) (hDd : mx (sideC xs l 0) = D) (h0 : D ≠ 0) {p : Nat → Int} (hpl : ∀ k, k < 6 → ∃ n : Int, p k = hueC (sideC xs l k) - 6 * (D * n)) (k : Nat) (hk : k < 6) :
    (p ((k + 1) % 6) - p k - l * D).fmod (6 * D) = 0 := by
  have h1 : 0 ≤ mx (sideC xs l 0) := by have := sideC_zero xs l 0; unfold Zero at this; unfold mx; omega
  subst hDd
  have := places_ok hl (by omega) p hpl k hk
  rw [Int.fmod_eq_emod_of_nonneg _ (by omega)]
  exact this
end Mine
end
section
open PySem PySem.W PyProof.Rows PySem.Spec PySem.Calls PySem.Flt
set_option maxRecDepth 100000
namespace Mine
/- what holds between the statements of the law -/
section
variable (L : Addr) (m : Str → Option Value) (Z : List (Addr × Obj))
inductive A0 : Prop
  | mk (c1 : CellAny Z (L + 1)) (c2 : CellAny Z (L + 1 + 1)) (c3 : CellAny Z (L + 1 + 1 + 1)) (c4 : CellAny Z (L + 1 + 1 + 1 + 1)) (c5 : CellAny Z (L + 1 + 1 + 1 + 1 + 1)) (c6 : CellAny Z (L + 1 + 1 + 1 + 1 + 1 + 1)) : A0
inductive A1 (d : Nat → Int) : Prop
  | mk (D : Addr) (c1 : CellIs Z (L + 1) (some (.ref D))) (c2 : CellAny Z (L + 1 + 1)) (c3 : CellAny Z (L + 1 + 1 + 1)) (c4 : CellAny Z (L + 1 + 1 + 1 + 1)) (c5 : CellAny Z (L + 1 + 1 + 1 + 1 + 1)) (c6 : CellAny Z (L + 1 + 1 + 1 + 1 + 1 + 1)) (i : IL Z D 7 d) : A1 d
inductive A2 (d : Nat → Int) : Prop
  | mk (D R : Addr) (c1 : CellIs Z (L + 1) (some (.ref D))) (c2 : CellIs Z (L + 1 + 1) (some (.ref R))) (c3 : CellAny Z (L + 1 + 1 + 1)) (c4 : CellAny Z (L + 1 + 1 + 1 + 1)) (c5 : CellAny Z (L + 1 + 1 + 1 + 1 + 1)) (c6 : CellAny Z (L + 1 + 1 + 1 + 1 + 1 + 1)) (i : IL Z D 7 d) (r : RC Z R (xsOf d)) : A2 d
inductive A3 (e : Int → Int) (xs : Nat → Col) : Prop
  | mk (T R : Addr) (hm : m (Str.ofString "texts") = some (.ref T)) (c2 : CellIs Z (L + 1 + 1) (some (.ref R))) (c3 : CellAny Z (L + 1 + 1 + 1)) (c4 : CellAny Z (L + 1 + 1 + 1 + 1)) (c5 : CellAny Z (L + 1 + 1 + 1 + 1 + 1)) (c6 : CellAny Z (L + 1 + 1 + 1 + 1 + 1 + 1)) (t : TX Z T e) (r : RC Z R xs) : A3 e xs
inductive A4 (e : Int → Int) (xs : Nat → Col) : Prop
  | mk (T R : Addr) (l : Nat) (tl : Tok) (hl : 1 ≤ l ∧ l ≤ 5) (hx : ∀ k : Int, 1 ≤ k ∧ k ≤ 5 → rk k (e k) ≤ rk l (e l)) (hm : m (Str.ofString "texts") = some (.ref T)) (c2 : CellIs Z (L + 1 + 1) (some (.ref R))) (c3 : CellIs Z (L + 1 + 1 + 1) (some (.int (l : Int) tl))) (c4 : CellAny Z (L + 1 + 1 + 1 + 1)) (c5 : CellAny Z (L + 1 + 1 + 1 + 1 + 1)) (c6 : CellAny Z (L + 1 + 1 + 1 + 1 + 1 + 1)) (t : TX Z T e) (r : RC Z R xs) : A4 e xs
inductive A5 (e : Int → Int) (xs : Nat → Col) (l : Nat) : Prop
  | mk (T R C M : Addr) (tl : Tok) (hm : m (Str.ofString "texts") = some (.ref T)) (mC : m (Str.ofString "corners") = some (.ref C)) (mM : m (Str.ofString "mixed") = some (.ref M)) (c2 : CellIs Z (L + 1 + 1) (some (.ref R))) (c3 : CellIs Z (L + 1 + 1 + 1) (some (.int (l : Int) tl))) (c4 : CellAny Z (L + 1 + 1 + 1 + 1)) (c5 : CellAny Z (L + 1 + 1 + 1 + 1 + 1)) (c6 : CellAny Z (L + 1 + 1 + 1 + 1 + 1 + 1)) (t : TX Z T e) (r : RC Z R xs) (k : RC Z C (fun j => Ks xs l (j + 4))) (x : L3 Z M (mixC xs)) : A5 e xs l
/- behind the first loop -/
inductive B1 (C M R : Addr) (l : Nat) (tl : Tok) (xs r : Nat → Col) : Prop
  | mk (mC : m (Str.ofString "corners") = some (.ref C)) (H : LqZ L C M R l tl xs r Z) : B1 C M R l tl xs r
inductive B2 (C : Addr) (l : Nat) (tl : Tok) (xs : Nat → Col) (D : Int) : Prop
  | mk (mC : m (Str.ofString "corners") = some (.ref C)) (td : Tok) (H : LrZ L C l tl xs D td Z) : B2 C l tl xs D
inductive B3 (C : Addr) (l : Nat) (tl : Tok) (xs : Nat → Col) (D : Int) (td : Tok) : Prop
  | mk (mC : m (Str.ofString "corners") = some (.ref C)) (H : LrZ L C l tl xs D td Z) (Pl : Addr) (hp : CellIs Z (L + 1 + 1 + 1 + 1 + 1 + 1) (some (.ref Pl))) (mP : (Pl, W.listOf #[] 0) ∈ Z) : B3 C l tl xs D td
inductive B4 (C Pl : Addr) (l : Nat) (tl : Tok) (xs : Nat → Col) (D : Int) (td : Tok) : Prop
  | mk (H : LtZ L C Pl l tl xs D td Z) (its : Array Value) (nP : Nat) (mP : (Pl, W.listOf its nP) ∈ Z) (hP : PlOk D xs l its 6) : B4 C Pl l tl xs D td
inductive B5 (C Pl : Addr) (l : Nat) (tl : Tok) (xs : Nat → Col) (D : Int) (td : Tok) (J : Addr) (j : Nat) : Prop
  | mk (mC : m (Str.ofString "corners") = some (.ref C)) (H : LtZ L C Pl l tl xs D td Z) (mJ : (J, rIt (j : Int) (6 - (j : Int))) ∈ Z) (its : Array Value) (nP : Nat) (mP : (Pl, W.listOf its nP) ∈ Z) (hP : PlOk D xs l its j) : B5 C Pl l tl xs D td J j
/- a turn of the second loop -/
inductive D0 (C Pl : Addr) (l : Nat) (tl : Tok) (xs : Nat → Col) (D : Int) (td : Tok) (J : Addr) (oJ : Obj) (its : Array Value) (nP : Nat) : Prop
  | mk (mC : m (Str.ofString "corners") = some (.ref C)) (H : LtZ L C Pl l tl xs D td Z) (mJ : (J, oJ) ∈ Z) (mP : (Pl, W.listOf its nP) ∈ Z) : D0 C Pl l tl xs D td J oJ its nP
/- three floats by their names -/
inductive D3 (x y z : Str) (a b c : UInt64) (P : Prop) : Prop
  | mk (p : P) (ta tb tc : Tok) (ha : m x = some (.float a ta)) (hb : m y = some (.float b tb)) (hc : m z = some (.float c tc)) : D3 x y z a b c P
/- a turn of the first loop -/
inductive T0 (C M E It S : Addr) (vs : List Value) (l : Nat) (tl : Tok) (xs : Nat → Col) (R : Addr) (r : Nat → Col) (i : Nat) (step text : Value) : Prop
  | mk (ms : m (Str.ofString "step") = some step) (mt : m (Str.ofString "text") = some text) (mC : m (Str.ofString "corners") = some (.ref C)) (mM : m (Str.ofString "mixed") = some (.ref M)) (H : LpZ L C M E It S vs l tl xs R r i Z) : T0 C M E It S vs l tl xs R r i step text
inductive T2 (k : Int) (P : Prop) : Prop
  | mk (p : P) (ts : Tok) (h : m (Str.ofString "seconds") = some (.int k ts)) : T2 k P
inductive T3 (P : Prop) : Prop
  | mk (p : P) (Tn : Addr) (c : CellIs Z (L + 1 + 1 + 1 + 1) (some (.ref Tn))) (l : LR Z Tn []) : T3 P
inductive T4 (Tn : Addr) (n : Nat) (z : Int) (r : Nat → Col) (P : Prop) : Prop
  | mk (p : P) (rs : List Addr) (tf : Nat → Col) (c : CellIs Z (L + 1 + 1 + 1 + 1) (some (.ref Tn))) (l : LR Z Tn rs) (hl : rs.length = n) (h : ∀ (j : Nat) x, rs[j]? = some x → L3 Z x (tf j) ∧ IsTurn z (r j) (tf j)) : T4 Tn n z r P
inductive T5 (sec : Value) (J : Addr) (oJ : Obj) (P : Prop) : Prop
  | mk (h : m (Str.ofString "seconds") = some sec) (mJ : (J, oJ) ∈ Z) (p : P) : T5 sec J oJ P
end
theorem N_hide {M : Model} {A : Around} {α : Type} {t : Sem α} {s : Shared} {Q : α → Shared → Prop} (K : (α → Shared → Prop) → Prop) (hK : K Q) (h : ∀ Q', K Q' → wpN M A t Q' s) : wpN M A t Q s := h Q hK
end Mine
end
section
open PySem PySem.W PyProof.Rows PySem.Spec PySem.Calls PySem.Flt
set_option maxRecDepth 100000
namespace Mine
open LCg
section
variable {prog : Program} {w : World} {A : Around} {E : Value → Shared → Prop} {s : Shared} {h₀ : Heap} {L : Addr} {m : Str → Option Value} {env : Env}
  {elt : PySem.Expr} {x : Str} {scope : Scope} {cl : List (Str × Addr)} {S : List (Addr × Obj) → Prop} {P : Nat → Value → Prop} {Fin : List Value → List (Addr × Obj) → Prop}
/- all turns of a comprehension whose test never holds -/
theorem restT_none {ct : PySem.Expr} (n : Nat) (Z : List (Addr × Obj))
    (step : ∀ i, i < n → ∀ v I oI C oC D m₂ h tk (E' : Value → Shared → Prop), P i v → NsObj oC m₂ → m₂ x = some v → Fr h₀ L h m → News h₀ L h ((I, oI) :: (C, oC) :: (D, lst []) :: Z) → Off3 I C D Z → ((@Ne Nat I C) ∧ (@Ne Nat I D) ∧ (@Ne Nat C D)) →
      ∀ Q' : Bool → Shared → Prop, (∀ s', CompEnd h₀ L m { s with heap := h, toks := tk } I oI C oC D (lst []) S (fun _ news' => news' = Z) Value.none s' → Q' false s') → wpAny (model prog w) A (isTrue ct (compEnvC scope cl C env) (eval ct (compEnvC scope cl C env))) Q' E' { s with heap := h, toks := tk })
    (fin : Fin [] Z) : ∀ k i, i + k = n → LCt.CompRestT prog w A h₀ L m env ct elt x scope cl s S P Fin k i [] Z
  | 0, _, _ => fin
  | k + 1, i, e => fun v I oI C oC D m₂ hp tk E' hv hC hx F N off ne =>
    step i (by omega) v I oI C oC D m₂ hp tk E' hv hC hx F N off ne _ fun s' ⟨h', tk', news', e', F', N', off', hS', r'⟩ => by
      subst r'
      rw [if_neg Bool.false_ne_true]
      exact ⟨h', tk', _, e', F', N', off', hS', restT_none n _ step fin k (i + 1) (by omega)⟩
theorem srcT_range {ct : PySem.Expr} {Fin : Shared → List Value → List (Addr × Obj) → Prop} {r : Addr} {a b : Int} {t u v : Tok} {n : Nat} {news : List (Addr × Obj)} {s₁ : Shared}
    (hh : A.handled = none) (F : Fr h₀ L s₁.heap m) (N : News h₀ L s₁.heap news) (hr : IsRange s₁.heap r a b 1 t u v) (hsm : Builtin.Range.small a b 1 = true) (hn : Builtin.Range.rangeSize a b 1 = ((n : Nat) : Int)) (hsz : n ≤ sizeLine)
    (h : Hide (∀ g, LCt.CompRestT prog w A h₀ L m env ct elt x scope cl { s₁ with heap := g } (fun _ => True) (fun i v => ∃ t, v = .int (a + (i : Int)) t) (Fin { s₁ with heap := g }) n 0 [] news)) :
    LCt.CompSrcT prog w A h₀ L m env ct elt x scope cl Fin (.ref r) s₁ := LCt.CompSrcT.range hh F N hr hsm hn hsz h.out
end
/- colours made so far by a comprehension -/
inductive RI (Z : List (Addr × Obj)) (f : Nat → Col) (i : Nat) (ys : List Value) (news : List (Addr × Obj)) : Prop
  | mk (rs : List Addr) (e : ys = rs.map Value.ref) (hl : rs.length = i) (r : ∀ (j : Nat) x, rs[j]? = some x → L3 news x (f j)) (hs : ∀ q ∈ Z, q ∈ news) : RI Z f i ys news
theorem RI.nil (Z : List (Addr × Obj)) (f : Nat → Col) : RI Z f 0 [] Z := ⟨[], rfl, rfl, fun j x e => (by cases e), fun q h => h⟩
theorem RI.snoc {Z : List (Addr × Obj)} {f : Nat → Col} {i : Nat} {ys : List Value} {news : List (Addr × Obj)} {v : Addr} {o : Obj} (H : RI Z f i ys news) (h : L3 ((v, o) :: news) v (f i)) : RI Z f (i + 1) (ys ++ [.ref v]) ((v, o) :: news) := by
  obtain ⟨rs, rfl, rfl, r, hs⟩ := H
  refine ⟨rs ++ [v], by rw [List.map_append]; rfl, by rw [List.length_append]; rfl, fun j x e => ?_, fun q hq => .tail _ (hs q hq)⟩
  by_cases hj : j < rs.length
  · rw [List.getElem?_append_left hj] at e
    exact (r j x e).mono tl1
  · rw [List.getElem?_append_right (Nat.le_of_not_lt hj)] at e
    have e0 : j - rs.length = 0 := by
      cases hk : j - rs.length with
      | zero => rfl
      | succ k => rw [hk] at e; cases e
    have : j = rs.length := Nat.le_antisymm (Nat.le_of_sub_eq_zero e0) (Nat.le_of_not_lt hj)
    subst this
    rw [e0] at e
    cases e
    exact h
theorem RI.rc {Z : List (Addr × Obj)} {f : Nat → Col} {ys : List Value} {news W : List (Addr × Obj)} {D : Addr} (H : RI Z f 6 ys news) (hs : ∀ q ∈ (D, lst ys) :: news, q ∈ W) : RC W D f := by
  obtain ⟨rs, rfl, hl, r, _⟩ := H
  exact ⟨rs, ⟨_, hs _ (.head _)⟩, hl, fun j x e => (r j x e).mono fun q hq => hs _ (.tail _ hq)⟩
theorem six_item {f : Nat → Value} {i : Nat} {v : Value} (hi : i < 6) (h : #[f 0, f 1, f 2, f 3, f 4, f 5][i]? = some v) : v = f i := by
  match i, hi with
  | 0, _ => exact (Option.some.inj h).symm
  | 1, _ => exact (Option.some.inj h).symm
  | 2, _ => exact (Option.some.inj h).symm
  | 3, _ => exact (Option.some.inj h).symm
  | 4, _ => exact (Option.some.inj h).symm
  | 5, _ => exact (Option.some.inj h).symm
theorem IL.stored {Z Z' : List (Addr × Obj)} {a c : Addr} {n : Nat} {f : Nat → Int} (H : IL Z a n f) (P : Stored Z Z' c) : IL Z' a n f :=
  let ⟨vs, k, m, hl, r⟩ := H; ⟨vs, k, P.2 _ _ m (fun v e => by cases e), hl, r⟩
/- the item ahead, by -1 of the first one the last -/
theorem item_prev {prog : Program} {w : World} {A : Around} {E : Value → Shared → Prop} {s : Shared} {h₀ : Heap} {L c : Addr} {news : List (Addr × Obj)} {its : Array Value} {k nn : Nat} {t : Tok} {x : Value} {value slice : PySem.Expr} {Q : Value → Shared → Prop}
    (N : News h₀ L s.heap news) (hl : (c, W.listOf its nn) ∈ news) (hz : its.size = 6) (hk : k < 6) (hx : its[(k + 5) % 6]? = some x) (h : Q x s)
    (hs : subscripted slice false (.ref c) (.int ((k : Int) - 1) t) = operate [.ref c, .int ((k : Int) - 1) t] (getItem (.ref c) (.int ((k : Int) - 1) t)))
    (ht : ∀ r, letTemporaryGo value (.ref c) r = pure ()) :
    wpAny (model prog w) A (subscriptTail value slice (.ref c) (.int ((k : Int) - 1) t)) Q E s := by
  cases k with
  | zero =>
    have hl' : s.heap.IsList c its := ⟨_, (N _ hl).1, rfl, nn, rfl⟩
    refine tail_of_ItemOn ⟨"list", _, slot_list_getitem.lookup, hl'.typeIs, wpAny_getItem_list_neg hl' (by decide) (by rw [hz]; decide) (by decide) ?_ h⟩ hs ht
    rw [hz]
    exact hx
  | succ k =>
    have e : ((k + 1 : Nat) : Int) - 1 = (k : Int) := by omega
    have e2 : (k + 1 + 5) % 6 = k := by omega
    rw [e2] at hx
    revert hs
    rw [e]
    intro hs
    exact item_ledG N hl (by omega) (by omega) hx h hs ht
theorem turned_all {Z : List (Addr × Obj)} {rs : List Addr} {tf r : Nat → Col} {z : Int} (hl : rs.length = 6) (h : ∀ (j : Nat) x, rs[j]? = some x → L3 Z x (tf j) ∧ IsTurn z (r j) (tf j)) : ∀ k, k < 6 → IsTurn z (r k) (tf k) := fun k hk =>
  (h k _ (List.getElem?_eq_getElem (by omega))).2
theorem RI.sub {Z : List (Addr × Obj)} {f : Nat → Col} {i : Nat} {ys : List Value} {news : List (Addr × Obj)} (H : RI Z f i ys news) : ∀ q ∈ Z, q ∈ news := let ⟨_, _, _, _, hs⟩ := H; hs
section
variable {w : World} {mean : ExcName → Option Value} {mg mb : Str → Option Value} {dp un : Nat} {gd : Option (List Code)} {cn : Str} {cs : Scope} {a : Addr} {ccd : Value} {cl : List (Str × Addr)} {outer : List Env} {A₀ : Around} {base h₀ : Heap} {L : Addr} {m : Str → Option Value} {s : Shared} {Q E : Value → Shared → Prop} {news : List (Addr × Obj)}
theorem zone_use {sx dress : Int} {t1 t2 : Tok} (B : Below A₀ base outer h₀) (F : Fr h₀ L s.heap m) (X : Frag.In (hd.heap_39 w.params) h₀) (N : News h₀ L s.heap news) (T : Top V0 loose0 mean mg mb h₀) (hk : cs.kind = .function) (hd : dp + 1 < recursionLimit) (hu : un + 8 * 1 < cLine) (hx : 1 ≤ sx ∧ sx ≤ 5)
    (h : ∀ (t : Tok) (h' : Heap) (tk' : Nat), Fr h₀ L h' m → News h₀ L h' news → Q (.str (zoneS sx dress) t) { s with heap := h', toks := tk' }) :
    wpAny (model P0 w) (ktrTop dp un gd cn cs L a ccd cl outer) (call (.ref 86) [.int sx t1, .int dress t2]) Q E s := CtrB.useE (zone_ok w sx dress t1 t2 hx) B F X N T hk hd hu trivial h
theorem tz_use {k e : Int} {t1 : Tok} (B : Below A₀ base outer h₀) (F : Fr h₀ L s.heap m) (X : Frag.In (hd.heap_39 w.params) h₀) (N : News h₀ L s.heap news) (T : Top V0 loose0 mean mg mb h₀) (hk : cs.kind = .function) (hd : dp + 1 < recursionLimit) (hu : un + 8 * 1 < cLine) (h1 : 1 ≤ k ∧ k ≤ 5) (h2 : 0 ≤ e ∧ e ≤ 3)
    (h : ∀ (t : Tok) (h' : Heap) (tk' : Nat), Fr h₀ L h' m → News h₀ L h' news → Q (.int (secZ k e) t) { s with heap := h', toks := tk' }) :
    wpAny (model P0 w) (ktrTop dp un gd cn cs L a ccd cl outer) (call (.ref 65) [.str (zoneS k e) t1]) Q E s := CtrB.useE (tz_ok w k e t1 h1 h2) B F X N T hk hd hu trivial h
theorem rgb_use {r g b : UInt64} {t1 t2 t3 : Tok} (B : Below A₀ base outer h₀) (F : Fr h₀ L s.heap m) (X : Frag.In (hd.heap_39 w.params) h₀) (N : News h₀ L s.heap news) (T : Top V0 loose0 mean mg mb h₀) (hk : cs.kind = .function) (hd : dp + 1 < recursionLimit) (hu : un + 8 * 1 < cLine) (hz : NoZ r g b)
    (h : ∀ (x : Addr) (u1 u2 u3 : Tok) (h' : Heap) (tk' : Nat), Fr h₀ L h' m → News h₀ L h' ((x, { cls := .type "tuple", data := .seq #[.float (hlsF r g b).1 u1, .float (hlsF r g b).2.1 u2, .float (hlsF r g b).2.2 u3] }) :: news) → Q (.ref x) { s with heap := h', toks := tk' }) :
    wpAny (model P0 w) (ktrTop dp un gd cn cs L a ccd cl outer) (call (.ref 38) [.float r t1, .float g t2, .float b t3]) Q E s := CtrB.use3 (rgb_ok w r g b t1 t2 t3 hz) B F X N T hk hd hu fun x u1 u2 u3 h' tk' F' N' _ => h x u1 u2 u3 h' tk' F' N'
end
/- rules in the form that the walk wants -/
section
variable {prog : Program} {w : World} {A : Around} {E : Value → Shared → Prop} {s : Shared} {h₀ : Heap} {L l : Addr} {m : Str → Option Value} {Z : List (Addr × Obj)} {its : Array Value} {e : Int → Int} {u : Nat → Tok} {n : Nat} {Q : Value → Shared → Prop}
theorem max_zonesL (hh : A.handled = none) (F : Fr h₀ L s.heap m) (N : News h₀ L s.heap Z) (hl : (l, W.listOf its n) ∈ Z) (hT : TextsAre e u its) (he : ∀ k, 1 ≤ k ∧ k ≤ 5 → 0 ≤ e k ∧ e k ≤ 3)
    (h : ∀ (j : Nat) h' tk, j < 5 → (∀ i : Nat, i < 5 → rk ((i : Int) + 1) (e ((i : Int) + 1)) ≤ rk ((j : Int) + 1) (e ((j : Int) + 1))) → Fr h₀ L h' m → News h₀ L h' Z → Q (.str (zoneS ((j : Int) + 1) (e ((j : Int) + 1))) (u j)) { s with heap := h', toks := tk }) :
    wpAny (model prog w) A (call (.builtin "max") [.ref l]) Q E s := max_zones hh F N ⟨_, (N _ hl).1, rfl, n, rfl⟩ hT he h
theorem index_zonesL {j : Nat} {t : Tok} (N : News h₀ L s.heap Z) (hl : (l, W.listOf its n) ∈ Z) (hT : TextsAre e u its) (he : ∀ k, 1 ≤ k ∧ k ≤ 5 → 0 ≤ e k ∧ e k ≤ 3) (hj : j < 5)
    (h : Q (.int (j : Int) s.toks) { s with toks := s.toks + 1 }) :
    wpAny (model prog w) A (call (.builtin "list.index") [.ref l, .str (zoneS ((j : Int) + 1) (e ((j : Int) + 1))) t]) Q E s := index_zones ⟨_, (N _ hl).1, rfl, n, rfl⟩ hT he hj h
theorem appendD {D : Int} {x : Value} (_ : D ≤ 90) (F : Fr h₀ L s.heap m) (N : News h₀ L s.heap Z) (hm : (l, W.listOf its n) ∈ Z) (hsz : its.size ≤ sizeLine)
    (h : ∀ h' Z', Fr h₀ L h' m → News h₀ L h' ((l, W.listOf (its.push x) (n + 1)) :: Z') → (∀ a o, (a, o) ∈ Z → a ≠ l → (a, o) ∈ Z') → Q .none { s with heap := h' }) :
    wpAny (model prog w) A (call (.builtin "list.append") [.ref l, x]) Q E s := appendA F N hm hsz h
theorem six_mulN {M : Addr} {k : Int} {t : Tok} (hk : k = 6) (F : Fr h₀ L s.heap m) (N : News h₀ L s.heap Z) (hm : (l, W.listOf #[Value.ref M] n) ∈ Z) (h : ∀ D' h', Fr h₀ L h' m → News h₀ L h' ((D', W.listOf #[Value.ref M, .ref M, .ref M, .ref M, .ref M, .ref M] 0) :: Z) → Q (.ref D') { s with heap := h' }) :
    wpAny (model prog w) A (binaryOp .Mult (.ref l) (.int k t)) Q E s := by
  subst hk; exact six_mul F N hm h
theorem ne_pairsD {D : Int} {D1 D2 : Addr} {a1 a2 : UInt64} {b1 b2 : Int} {t1 t2 u1 u2 : Tok} (_ : D ≤ 90) (N : News h₀ L s.heap ((D2, { cls := .type "tuple", data := .seq #[.int b1 u1, .int b2 u2] }) :: (D1, { cls := .type "tuple", data := .seq #[.float a1 t1, .float a2 t2] }) :: Z))
    (c1 : (Float64.cmpInt a1 b1 == some Ordering.eq) = true) (c2 : (Float64.cmpInt a2 b2 == some Ordering.eq) = true) (hu : A.units < cLine) (h : Q (.bool false) s) : wpAny (model prog w) A (compareOp .NotEq (.ref D1) (.ref D2)) Q E s :=
  ne_pairs N (.tail _ (.head _)) (.head _) rfl rfl c1 c2 hu h
end
section
variable {prog : Program} {w : World} {A : Around} {E : Value → Shared → Prop} {s : Shared} {h₀ : Heap} {L : Addr} {m : Str → Option Value} {env : Env} {elt : PySem.Expr} {x : Str} {scope : Scope} {cl : List (Str × Addr)}
theorem srcT_six {ct : PySem.Expr} {Fin : Shared → List Value → List (Addr × Obj) → Prop} {r : Addr} {a b : Int} {t u v : Tok} {news : List (Addr × Obj)} {s₁ : Shared}
    (hh : A.handled = none) (F : Fr h₀ L s₁.heap m) (N : News h₀ L s₁.heap news) (hr : IsRange s₁.heap r a b 1 t u v) (hsm : Builtin.Range.small a b 1 = true) (hn : Builtin.Range.rangeSize a b 1 = ((6 : Nat) : Int))
    (h : Hide (∀ g, LCt.CompRestT prog w A h₀ L m env ct elt x scope cl { s₁ with heap := g } (fun _ => True) (fun i v => ∃ t, v = .int (a + (i : Int)) t) (Fin { s₁ with heap := g }) 6 0 [] news)) :
    LCt.CompSrcT prog w A h₀ L m env ct elt x scope cl Fin (.ref r) s₁ := srcT_range hh F N hr hsm hn (by decide) h
end
theorem ListComp_UPart {prog : Program} {w : World} {A : Around} {E : Value → Shared → Prop} {s : Shared} {h₀ : Heap} {L : Addr} {m : Str → Option Value} {env : Env} {iter r : PySem.Expr} {x : Str} {px pos p1 p2 : Pos} {scope : Scope} {cl : List (Str × Addr)} {Q : Value → Shared → Prop} (F₀ : Fr h₀ L s.heap m)
    (hclos : closureFor scope env = pure cl) (hcell : ∀ y ∈ scope.names, y.2 ≠ .cell) (hkind : scope.kind = .function) (hnames : ∀ y ∈ scope.names, y.2 = .local → scope.names.lookup y.1 = some .local) (hx : scope.names.lookup x = some .local)
    (h : wpAny (model prog w) A (eval iter env) (LCg.CompSrc prog w A h₀ L m env (.BinOp (.Name (Str.ofString "part") p1) .Div r p2) x scope cl (fun s₂ => LCg.FinE h₀ L m s₂ Q)) E s)
    (hs : ∀ x, foldedSetIterable iter env x = pure x) :
    wpAny (model prog w) A (eval (.ListComp (.BinOp (.Name (Str.ofString "part") p1) .Div r p2) [⟨.Name x px, iter, [], 0⟩] scope pos) env) Q E s := LCg.ListComp_U F₀ hclos hcell hkind hnames hx h hs
end Mine
end
section
open PySem PySem.W PyProof.Rows PySem.Spec PySem.Calls PySem.Flt
set_option maxRecDepth 100000
namespace Mine
theorem pad_of_Q1 : True := by
  w_top off
  trivial
theorem fillq1 : (hd.heap_39 = hd.heap_39) ∧ (PySem.Challenge.rw_zo0002_01 = PySem.Challenge.rw_zo0002_01) := by
  k_fill
  exact ⟨rfl, rfl⟩
theorem floordivN {prog : Program} {w : World} {A : Around} {E : Value → Shared → Prop} {s : Shared} {Q : Value → Shared → Prop} {a b : Int} {t u : Tok} (hb : b ≠ 0) (hp : Builtin.divisionGoesByPylong a b = false) (h : Q (.int (a.fdiv b) s.toks) { s with toks := s.toks + 1 }) :
    wpAny (model prog w) A (binaryOp .FloorDiv (.int a t) (.int b u)) Q E s := PyProof.Rows.floordiv_int hb h (.inl hp)
theorem three_itemI {a b c : Int} {w1 w2 w3 : Tok} {i : Nat} {v : Value} (hi : i < 3) (h : #[Value.int a w1, .int b w2, .int c w3][i]? = some v) : ∃ t, v = .int ([a, b, c].getD i 0) t := by
  match i, hi with
  | 0, _ => exact ⟨_, (Option.some.inj h).symm⟩
  | 1, _ => exact ⟨_, (Option.some.inj h).symm⟩
  | 2, _ => exact ⟨_, (Option.some.inj h).symm⟩
theorem tx_of {Z : List (Addr × Obj)} {a : Addr} {d : Int} {ys : List Value} (hm : (a, LCg.lst ys) ∈ Z) (H : YI (fun j t => .str (zoneS ((j : Int) + 1) ((d.fdiv (4 ^ (j : Int).toNat)).fmod 4)) t) 5 ys) : TX Z a (eOf d) := by
  obtain ⟨t, rfl⟩ := H
  refine ⟨_, t, _, hm, by rw [List.size_toArray, List.length_map, List.length_range], fun j hj => ?_⟩
  rw [List.getElem?_toArray, List.getElem?_map, List.getElem?_range hj]
  show some (Value.str (zoneS ((j : Int) + 1) ((d.fdiv (4 ^ (j : Int).toNat)).fmod 4)) (t j)) = some (.str (zoneS ((j : Int) + 1) ((d.fdiv (4 ^ ((j : Int) + 1 - 1).toNat)).fmod 4)) (t j))
  rw [Int.add_sub_cancel]
theorem two_of {l : List Addr} (h : l.length = 6) : ∃ a b r, l = a :: b :: r := match l, h with | a :: b :: r, _ => ⟨a, b, r, rfl⟩
theorem fst_of {a b : Value} {r : List Value} : (a :: b :: r).toArray[(0 : Int).toNat]? = some a := by rw [List.getElem?_toArray]; rfl
theorem snd_of {a b : Value} {r : List Value} : (a :: b :: r).toArray[(1 : Int).toNat]? = some b := by rw [List.getElem?_toArray]; rfl
local macro_rules | `(tactic| walk_at "m") => `(tactic| ((repeat with_reducible refine List.mem_cons_of_mem _ ?_); with_reducible assumption))
local macro_rules | `(tactic| k_mem) => `(tactic| first | walk_at "m" | with_reducible exact List.mem_cons_self | (with_reducible refine List.mem_cons_of_mem _ ?_; k_mem))
local macro_rules | `(tactic| k_all) => `(tactic| first | exact List.forall_mem_nil _ | exact Beside.ne (by assumption) | (refine List.forall_mem_cons.mpr ⟨(by k_ne), (by k_all)⟩))
local macro_rules | `(tactic| walk_at "V") => `(tactic| first | with_reducible assumption | (refine (if_neg (by decide)).trans ?_; walk_at "V") | rfl)
local macro_rules | `(tactic| walk_at "x") => `(tactic| first | with_reducible exact fst_of | with_reducible exact snd_of)
local macro_rules | `(tactic| walk_at "P") => `(tactic| first | k_asm | walk_at "m" | exact rfl | ktr_room | ktr_units | assumption | omega)
local macro_rules | `(tactic| walk_at "call ref") => `(tactic| (k_here; k_dflt (first | apply rgb_use | apply less_useF | apply hue_use | apply tz_use | apply zone_use) <;> (try walk_at "P"); intros; (try dsimp only)))
local macro_rules | `(tactic| walk_at $k:str) => tbl [("eval Name", false, [(``nameX_L, "A V ? R R"), (``nameX_C, "A R M A ? R R"), (``nameX_K, "A A A I ? R R"), (``nameX_B, "A A A I B D ? R R")]),
  ("eval ListComp", true, [(``ListComp_UPart, "! A R D R D R ? G")]), ("CompEnd", true, [(``CompEnd_newF, "S S S S l ?"), (``CompEnd_new, "S S N N N S l ?"), (``CompEnd_same, "S S S l ?")]), ("CompSrc", true, [(``src_range, "R A A S DR RD zL ?"), (``src_ledger, "R A A M zL ?")]),
  ("subscriptTail Name Constant ref int", true, [(``item_ledG, "A m D D x ? w F"), (``item_seven6, "A m ? w F")]), ("call builtin:max", true, [(``max3, "R A A M ?"), (``max_zonesL, "R A A m S S ?")]),
  ("call builtin:list.index", true, [(``index_zonesL, "A m S S S ?")]), ("call builtin:sorted", true, [(``sorted_texts, "A A A A A ES r u m S S ?")]),
  ("compareOp NotEq ref ref", true, [(``ne_pairsD, "S A S S K ?"), (``ne_mixed, "A S S S K ?"), (``ne_rings, "A S S S K ?")]),
  ("subscriptTail Name Name ref int", true, [(``item_ledG, "A m oDS oDS s ? w F")]), ("subscriptTail Name BinOp ref int", true, [(``item_prev, "! A M S S s ? w F"), (``item_ledG, "A m s s s ? w F")]),
  ("call builtin:list.append", true, [(``appendD, "S A A m S ?"), (``appendZ, "A A m S ?")]), ("compareOp Eq int int", true, [(``eq_int_t, "s ?"), (``eq_int_f, "s ?")]), ("compareOp NotEq int int", true, [(``ne_int_t, "s ?"), (``ne_int_f, "s ?")]),
  ("storeName", true, [(``storeZ, "A A R m A ? R R")]), ("binaryOp Mult ref int", true, [(``six_mulN, "q A A M ?")]), ("binaryOp Div int int", true, [(``div_255, "E S ?")]), ("binaryOp Pow int int", true, [(``PyProof.Rows.pow_int_small, "! S S D ?")]), ("binaryOp FloorDiv int int", true, [(``floordivN, "! s s ?")]), ("binaryOp Mod int int", true, [(``mod_int', "! s ?")]),
  ("CompSrcT", true, [(``srcT_six, "R A A S DR RD ?")]), ("binaryOp Mult float int", true, [(``mul_fi_fits, "S ?")]), ("call builtin:round", true, [(``round_fin, "E S ?")]), ("compareOp NotEq float float", true, [(``ne_zeroF, "?")]), ("call builtin:min", true, [(``min_two_N, "E A A ?")])] k

set_option maxHeartbeats 0 in
theorem law_ok (w : World) (s : Shared) (a : Addr) (ns : List Int) (vs : List Value) (mean : ExcName → Option Value) (mg mb : Str → Option Value) (Q : Value → Shared → Prop) (T : Top V0 loose0 mean mg mb s.heap) (X : Frag.In (hd.heap_39 w.params) s.heap)
    (hL : s.heap.IsList a vs.toArray) (hI : IntsAre vs ns) (hlay : PyData.layable0 (.list (ns.map .int)) = true) (hret : ∀ h' tk', (∀ b o, s.heap.get? b = some o → h'.get? b = some o) → Q (.bool true) { s with heap := h', toks := tk' }) :
    wpN (model P0 w) callerA (call (.ref 111) [.ref a]) Q s := by
  refine N_call ?_
  refine' code_lawK (binds := [(Str.ofString "script", .ref a)]) ?k0 ?k1 ?k6 ?k7 ?k9 ?kB ?kD ?_ ?c2 ?c3 ?c4
  case k0 => assumption
  case k1 => assumption
  case k6 => k_is
  case k7 => k_is
  case k9 => exact BindsTo.of_eq rfl
  case kB => exact rfl
  case kD => decide +kernel
  case c2 => exact rfl
  case c3 => exact rfl
  case c4 => exact rfl
  intro L' h' tk' cells' F' N' Y' B'
  refine hide fun GG hGG => ?_
  k_cells Y'
  (try simp only [List.cons_append, List.nil_append] at N')
  obtain ⟨m, F2, hm⟩ : ∃ m : Str → Option Value, Fr s.heap L' h' m ∧ m (Str.ofString "script") = some (.ref a) := ⟨_, F', rfl⟩
  clear F'
  rename_i o1 o2 o3 o4 o5 o6 d1 d2 d3 d4 d5 d6
  have e1 : o1.data = .cell none := d1
  have e2 : o2.data = .cell none := d2
  have e3 : o3.data = .cell none := d3
  have e4 : o4.data = .cell none := d4
  have e5 : o5.data = .cell none := d5
  have e6 : o6.data = .cell none := d6
  clear d1 d2 d3 d4 d5 d6
  refine hGG ?_
  clear hGG
  (try dsimp only)
  (try k_fold)
  have hA : callerA = topA (1 + claimMargin) 4 (some []) := rfl
  rw [hA]
  rw [hA] at B'
  have hdp : (1 + claimMargin) + 20 < recursionLimit := by decide
  generalize 1 + claimMargin = dp at *
  clear hA
  refine hide fun GG hGG => ?_
  obtain ⟨Z, N, hc1, hc2, hc3, hc4, hc5, hc6⟩ : ∃ Z, News s.heap L' h' Z ∧ A0 L' Z :=
    ⟨_, N', ⟨_, ⟨_, by k_mem, e6⟩⟩, ⟨_, ⟨_, by k_mem, e5⟩⟩, ⟨_, ⟨_, by k_mem, e4⟩⟩, ⟨_, ⟨_, by k_mem, e3⟩⟩, ⟨_, ⟨_, by k_mem, e2⟩⟩, ⟨_, ⟨_, by k_mem, e1⟩⟩⟩
  clear N' e1 e2 e3 e4 e5 e6
  refine hGG ?_
  clear hGG
  refine N_hide (K := fun Q9 => ∀ h' tk', (∀ b o, s.heap.get? b = some o → h'.get? b = some o) → Q9 (.ret (.bool true)) { s with heap := h', toks := tk' }) (fun h' tk' k => hret h' tk' k) ?_
  clear hret Q
  intro Q hret
  replace hret : ∀ h' tk', (∀ b o, s.heap.get? b = some o → h'.get? b = some o) → Q (.ret (.bool true)) { s with heap := h', toks := tk' } := hret
  refine N_seq (LSt L' (fun _ Z => A1 L' Z (drawnI ns)) s) ?s1 ?_
  case s1 =>
    intro Qs hQs
    refine hide fun GG hGG => ?_
    obtain ⟨v1, o1, m1, d1⟩ := hc1
    obtain ⟨Z1, N1, mv, be⟩ := news_pull N m1
    refine hGG ?_
    clear hGG
    refine N_of (wpAny_Assign_Name ?_)
    rw [eval_ListComp]
    refine' wpAny_comprehension_free (use := none) rfl ?h1 ?h2 ?h3 ?h4 ?_
    case h1 => intro _; rfl
    case h2 => rfl
    case h3 => rfl
    case h4 => decide
    show wpAny _ _ (eval _ _) _ _ _
    k_steps
    rename Fr _ _ _ _ => F9
    rename News _ _ _ _ => N9
    rename IntsAre _ _ => hI9
    have len9 := hI9.length
    refine zip_sums (n := 7) (f := fun i => [3585, 240, 1950, 74, 2748, 1217, 53].getD i 0) (g := fun i => ns.getD i 0) rfl F9 N9 ⟨_, (N9 _ (.tail _ (.tail _ (.tail _ (.tail _ (.head _)))))).1, rfl, _, rfl⟩ ⟨_, (N9 _ (.head _)).1, rfl, _, rfl⟩ ?hn (by decide) ?hx ?hy (by decide) rfl rfl rfl (by decide) (by decide) (by decide) ?_
    case hn =>
      rw [List.size_toArray, List.size_toArray, len9, List.length_append, List.length_take]
      have : (List.replicate (Int.toNat 7) [(0 : Int)]).flatten.length = 7 := rfl
      rw [this]
      show min 7 (min 7 ns.length + 7) = 7
      omega
    case hx =>
      intro i hi
      have : i = 0 ∨ i = 1 ∨ i = 2 ∨ i = 3 ∨ i = 4 ∨ i = 5 ∨ i = 6 := by omega
      rcases this with rfl | rfl | rfl | rfl | rfl | rfl | rfl <;> exact ⟨_, rfl⟩
    case hy =>
      intro i hi
      rw [List.getElem?_toArray]
      have := ints_at hI9 i (by rw [List.length_append]; have : (List.replicate (Int.toNat 7) [(0 : Int)]).flatten.length = 7 := rfl; omega)
      rwa [take_zeros ns i hi] at this
    intro D h9 tk9 us F8 N8 off hlen hv
    have hD1 : @Ne Nat (L' + 1) D := off (L' + 1, o1) (by k_mem)
    have N7 : News s.heap L' h9 ((D, LCg.lst us) :: (L' + 1, o1) :: Z1) := fun p hp => N8 p (by
      rcases List.mem_cons.mp hp with rfl | hp
      · exact .head _
      · exact .tail _ (.tail _ (.tail _ (.tail _ (.tail _ (.tail _ hp))))))
    clear F9 N9 hI9 N8 off
    have hz : ∀ q ∈ Z1, q ∈ (D, LCg.lst us) :: (L' + 1, o1) :: Z1 := fun q hq => .tail _ (.tail _ hq)
    have K : ∀ o' W, o'.data = Data.cell (some (.ref D)) → (∀ q ∈ (D, LCg.lst us) :: (L' + 1, o') :: Z1, q ∈ W) → A1 L' W (drawnI ns) := fun o' W d hs =>
      have ts : ∀ q ∈ Z1, q ∈ W := fun q hq => hs q (.tail _ (.tail _ hq))
      ⟨D, ⟨_, hs _ (.tail _ (.head _)), d⟩, (hc2.pull mv (ltCell 2 1 (by decide))).mono ts, (hc3.pull mv (ltCell 3 1 (by decide))).mono ts, (hc4.pull mv (ltCell 4 1 (by decide))).mono ts, (hc5.pull mv (ltCell 5 1 (by decide))).mono ts, (hc6.pull mv (ltCell 6 1 (by decide))).mono ts, ⟨us, us.length, hs _ (.head _), hlen, hv⟩⟩
    clear hz hc2 hc3 hc4 hc5 hc6
    show wpAny _ _ (storeName _ _ _) _ _ _
    dsimp only
    k_steps
    rename Fr _ _ _ _ => F9
    rename News _ _ _ _ => N9
    rename _ = Data.cell _ => d9
    exact hQs _ ⟨_, _, m, _, F9, N9, K _ _ d9 (fun q hq => hq)⟩
  refine LSt.all fun h tk m Z F N => ?_
  rintro ⟨D, hc1, hc2, hc3, hc4, hc5, hc6, hD⟩
  refine N_seq (LSt L' (fun _ Z => A2 L' Z (drawnI ns)) s) ?s2 ?_
  case s2 =>
    intro Qs hQs
    refine hide fun GG hGG => ?_
    obtain ⟨v2, o2, m2, d2⟩ := hc2
    obtain ⟨o1, m1, d1⟩ := id hc1
    obtain ⟨t, k7, mD⟩ := hD.seven
    refine hGG ?_
    clear hGG
    refine N_of ?_
    k_steps
    refine ⟨fun g => ?_⟩
    (try dsimp only)
    refine rest_all 6 (RI _ (xsOf (drawnI ns))) ?st ?fn 6 0 [] _ rfl (RI.nil _ _)
    case st =>
      intro i ys news hi HI v I oI C oC D9 m₂ h9 tk9 E' hv hC hx F9 N9 off ne Q' hQ'
      obtain rfl := six_item (f := fun i => .int (drawnI ns i) (t i)) hi hv
      clear hv
      k_steps
      refine hQ' _ _ (CompEnd_new (by assumption) (by assumption) (by k_ne) (by k_ne) (by k_ne) off (.inr ⟨_, .tail _ (HI.sub _ (.head _)), rfl, _, rfl⟩) (HI.snoc ⟨_, _, _, _, .head _⟩))
    case fn =>
      intro ys news HI
      have ts := HI.sub
      have m2' := ts _ (.tail _ m2)
      k_steps
      rename Fr _ _ _ _ => F9
      rename News _ _ _ _ => N9
      rename _ = Data.cell _ => d9
      rename (∀ b ob, (b, ob) ∈ _ → b ≠ _ → (b, ob) ∈ _) ∧ _ => P9
      have ty := fun (a : Addr × Obj) q (hq : q ∈ Z) => List.Mem.tail a (ts q (.tail _ hq))
      exact hQs _ ⟨_, _, m, _, F9, N9, D, _, ((hc1.mono (ty _)).stored P9 (ltCell 1 2 (by decide))).mono tl1, ⟨_, .head _, d9⟩, ((hc3.mono (ty _)).stored P9 (ltCell 3 2 (by decide))).mono tl1, ((hc4.mono (ty _)).stored P9 (ltCell 4 2 (by decide))).mono tl1, ((hc5.mono (ty _)).stored P9 (ltCell 5 2 (by decide))).mono tl1, ((hc6.mono (ty _)).stored P9 (ltCell 6 2 (by decide))).mono tl1, ((hD.mono (ty _)).stored P9).mono tl1, ((HI.rc fun q hq => hq).stored P9).mono tl1⟩
  refine LSt.all fun h tk m Z F N => ?_
  rintro ⟨D, R, hc1, hc2, hc3, hc4, hc5, hc6, hD, hR⟩
  refine N_seq (LSt L' (fun m Z => A3 L' m Z (eOf (drawnI ns 6)) (xsOf (drawnI ns))) s) ?s3 ?_
  case s3 =>
    intro Qs hQs
    refine hide fun GG hGG => ?_
    obtain ⟨o1, m1, d1⟩ := hc1
    obtain ⟨t, k7, mD⟩ := hD.seven
    refine hGG ?_
    clear hGG
    refine N_of ?_
    k_steps
    refine ⟨fun g => ?_⟩
    (try dsimp only)
    refine rest_all 5 (fun i ys news => YI (fun j t => .str (zoneS ((j : Int) + 1) (((drawnI ns 6).fdiv (4 ^ (j : Int).toNat)).fmod 4)) t) i ys ∧ news = _) ?st ?fn 5 0 [] _ rfl ⟨YI.nil _, rfl⟩
    case st =>
      rintro i ys _ hi ⟨HI, rfl⟩ v I oI C oC D9 m₂ h9 tk9 E' ⟨t9, hv⟩ hC hx F9 N9 off ne Q' hQ'
      rw [Int.zero_add] at hv
      subst hv
      have h5 : 1 ≤ (i : Int) + 1 ∧ (i : Int) + 1 ≤ 5 := by omega
      have h0 : 0 ≤ (i : Int) := by omega
      have hm9 : (i : Int) ≤ 1000000 := by omega
      have hp9 : (4 : Int) ^ (i : Int).toNat ≠ 0 := Int.ne_of_gt (Int.pow_pos (by decide))
      have hy9 : Builtin.divisionGoesByPylong (drawnI ns 6) (4 ^ (i : Int).toNat) = false := by
        have : i = 0 ∨ i = 1 ∨ i = 2 ∨ i = 3 ∨ i = 4 := by omega
        rcases this with rfl | rfl | rfl | rfl | rfl <;> exact PyProof.noPylong_of_log2 (by decide +kernel)
      (try dsimp only)
      k_steps
      refine hQ' _ _ ?_
      clear F9 N9
      exact LCg.CompEnd.intro (by assumption) (by assumption) _ (fun q hq => hq) off True.intro ⟨HI.snoc, rfl⟩
    case fn =>
      rintro ys _ ⟨HI, rfl⟩
      k_steps
      rename Fr _ _ _ _ => F9
      rename News _ _ _ _ => N9
      exact hQs _ ⟨_, _, _, _, F9, N9, _, R, if_pos rfl, hc2.mono tl1, hc3.mono tl1, hc4.mono tl1, hc5.mono tl1, hc6.mono tl1, tx_of (.head _) HI, hR.mono tl1⟩
  refine LSt.all fun h tk m Z F N => ?_
  rintro ⟨T1, R, hmT, hc2, hc3, hc4, hc5, hc6, hT, hR⟩
  have he := eOf_bd (drawnI ns 6)
  have xbd := xsOf_bd (drawnI ns)
  generalize eOf (drawnI ns 6) = e at *
  generalize xsOf (drawnI ns) = xs at *
  refine N_seq (LSt L' (fun m Z => A4 L' m Z e xs) s) ?s4 ?_
  case s4 =>
    intro Qs hQs
    refine hide fun GG hGG => ?_
    obtain ⟨v3, o3, m3, d3⟩ := hc3
    obtain ⟨Z1, N1, mv, be⟩ := news_pull N m3
    have H2 := hc2.pull mv (ltCell 2 3 (by decide))
    have H4 := hc4.pull mv (ltCell 4 3 (by decide))
    have H5 := hc5.pull mv (ltCell 5 3 (by decide))
    have H6 := hc6.pull mv (ltCell 6 3 (by decide))
    have HT := hT.pullC N ⟨_, m3, d3⟩ mv
    have HR := hR.pullC N ⟨_, m3, d3⟩ mv
    obtain ⟨its, u, kT, mT, hTA⟩ := HT
    clear mv hc2 hc4 hc5 hc6 hR hT
    refine hGG ?_
    clear hGG
    refine N_of ?_
    k_steps
    rename Fr _ _ _ _ => F9
    rename News _ _ _ _ => N9
    rename _ = Data.cell _ => d9
    rename (∀ i : Nat, i < 5 → rk _ _ ≤ rk _ _) => hmx
    rename _ < 5 => hj
    rename Nat => j
    refine hQs _ ⟨_, _, m, _, F9, N9, T1, R, _, _, ⟨Nat.le_add_left 1 _, Nat.succ_le_of_lt hj⟩, fun k hk => ?_, hmT, H2.mono tl1, ⟨_, .head _, d9⟩, H4.mono tl1, H5.mono tl1, H6.mono tl1, ⟨its, u, kT, .tail _ mT, hTA⟩, HR.mono tl1⟩
    have := hmx (k - 1).toNat (by omega)
    have ek : (((k - 1).toNat : Nat) : Int) + 1 = k := by omega
    rw [ek] at this
    exact this
  refine LSt.all fun h tk m Z F N => ?_
  rintro ⟨T1, R, l, tl, hl, hmax, hmT, hc2, hc3, hc4, hc5, hc6, hT, hR⟩
  refine N_seq (LSt L' (fun m Z => A5 L' m Z e xs l) s) ?s5 ?_
  case s5 =>
    intro Qs hQs
    refine hide fun GG hGG => ?_
    obtain ⟨o2, m2, d2⟩ := hc2
    obtain ⟨o3, m3, d3⟩ := hc3
    obtain ⟨X6, its, u, p1, p2, p3⟩ := rc_pre N hR
    have hF := Hide.mk F
    refine hGG ?_
    clear hGG
    refine N_AssignT (hs := ?hs) (hw := ?hw) ?_
    case hs => rfl
    case hw => rfl
    refine N_CallName ?_
    k_steps
    k_dflt (refine' N_callDefK ?kX ?ko ?_; (case kX => k_asm); (case ko => k_is))
    k_steps
    k_dflt (refine' CtrN.use (corners_ok w R X6 its l hl xs tl u) ?k1 ?k2 ?k3 ?k4 ?k5 ?k6 ?k7 ?k8 ?k9 ?_; (case k1 => k_asm); (case k2 => k_asm); (case k3 => k_asm); (case k4 => k_asm); (case k5 => k_asm); (case k6 => first | exact rfl | assumption); (case k7 => ktr_room); (case k8 => ktr_units); (case k9 => exact ⟨p1, p2, p3⟩))
    intro v h2 tk2 F2 N2 hCR
    refine hide fun GG hGG => ?_
    obtain ⟨Y, t9, C, M, rs, nt, rfl, hY, mt, hLR, hrs, hK, hM⟩ := hCR
    refine hGG ?_
    clear hGG
    obtain ⟨Z9, N9, ts, ys⟩ : ∃ Z9, News s.heap L' h2 Z9 ∧ (∀ q ∈ Z, q ∈ Z9) ∧ (∀ q ∈ Y, q ∈ Z9) := ⟨_, news_adds hF.out N2 hY, fun q hq => List.mem_append_right _ hq, fun q hq => List.mem_append_left _ hq⟩
    have mt9 := ys _ mt
    clear N2 hF hY mt p1 p2 p3
    dsimp only
    k_steps
    rename Fr _ _ _ _ => F8
    rename News _ _ _ _ => N8
    refine hQs _ ⟨_, _, _, _, F8, N8, T1, R, C, M, tl, ?_, ?_, ?_, (show CellIs Z _ _ from ⟨_, m2, d2⟩).mono ts, (show CellIs Z _ _ from ⟨_, m3, d3⟩).mono ts, hc4.mono ts, hc5.mono ts, hc6.mono ts, hT.mono ts, hR.mono ts, ⟨rs, hLR.mono ys, hrs, fun j x e => (hK j x e).mono ys⟩, hM.mono ys⟩
    · exact (if_neg (by decide)).trans ((if_neg (by decide)).trans hmT)
    · first | exact if_pos rfl | exact (if_neg (by decide)).trans (if_pos rfl)
    · first | exact if_pos rfl | exact (if_neg (by decide)).trans (if_pos rfl)
  refine LSt.all fun h tk m Z F N => ?_
  rintro ⟨T1, R, C, M, tl, hmT, hmC, hmM, hc2, hc3, hc4, hc5, hc6, hT, hR, hC, hM⟩
  obtain ⟨its, u, kT, mT, hTA⟩ := hT
  refine N_cons (N_For ?_)
  have hTA' := hTA
  k_steps
  rename Fr _ _ _ _ => F9
  rename News _ _ _ _ => N9
  rename (∀ i, i < 5 → ∃ t, _ = some (Value.str _ t)) => hvs
  rename List.Perm _ _ => hp
  rename (∀ k : Int, 1 ≤ k ∧ k ≤ 5 → rk k _ ≤ rk _ _) => hzm
  rename List.length _ = 5 => hlen
  rename Nat → Int => z
  rename List Value => vt
  refine enum_start F9 N9 (.head _) ?_
  intro E It h1 F1 hN1 hEI hSE hSI _
  obtain ⟨Z1, N1, ts, en1⟩ := hN1
  have hz4 : z 4 = l := rk_inj (perm_bd hp 4 (by decide)) (he _ (perm_bd hp 4 (by decide))) (by omega) (he _ (by omega)) (Int.le_antisymm (hmax _ (perm_bd hp 4 (by decide))) (hzm _ (by omega)))
  obtain ⟨S, en1, hSE, hSI⟩ : ∃ S, EnZ Z1 E It S vt 0 ∧ S ≠ E ∧ S ≠ It := ⟨_, en1, hSE, hSI⟩
  have ts' : ∀ q ∈ Z, q ∈ Z1 := fun q hq => ts q (.tail _ hq)
  clear hmax hzm N9 F9 N F ts mT hTA hTA' hmT
  refine N_turns 5 (fun i s' => LpSt L' C M E It S vt l tl xs z i s s') ?turn ?fin 5 0 _ rfl (by omega) ?init
  case init =>
    exact ⟨_, _, m, Z1, F1, N1, hmC, hmM, R, _, ⟨hc2.mono ts', hc3.mono ts', hc4.mono ts', hc5.mono ts', hc6.mono ts', en1, hR.mono ts', hC.mono ts', hM.mono ts'⟩, ring_start xbd, fun h => absurd h (by decide)⟩
  case fin =>
    clear ts' en1 N1 F1 hc2 hc3 hc4 hc5 hc6 hR hC hM hmC hmM
    refine LSt.all fun h tk m Z F N => ?_
    rintro ⟨hmC, hmM, R, r, H, hring, hzero⟩
    refine enum_end (elts := []) (k := 0) (pos := default) rfl hEI hSE hSI F N H.en hlen ?_
    intro h2 tk2 Z2 F2 N2 P2
    have H2 := H.last N P2
    have hmix : ∀ k, k < 6 → r k = mixC xs := fun k hk => ring_mixed hring (hzero (by decide)) hp k hk
    clear F N H P2 hring hzero
    dsimp only
    refine N_seq (LSt L' (fun m Z => B1 L' m Z C M R l tl xs r) s) ?c1 ?_
    case c1 =>
      intro Qs hQs
      obtain ⟨o2, m2, d2⟩ := H2.c2
      have hrc := H2.rc
      have hmx := H2.mx
      refine N_of ?_
      k_steps
      rename Fr _ _ _ _ => F9
      rename News _ _ _ _ => N9
      exact hQs _ ⟨_, _, m, _, F9, N9, hmC, by first | exact H2 | exact H2.mono tl1 | exact H2.mono tl2⟩
    clear hmC hmM F2 N2 H2
    have hD : ∀ k, k < 6 → mx (sideC xs l k) = mx (sideC xs l 0) := fun k hk => sideC_mx hl k hk
    refine LSt.all fun h tk m Z F N => ?_
    rintro ⟨hmC, H⟩
    refine N_seq (LSt L' (fun m Z => B2 L' m Z C l tl xs (mx (sideC xs l 0))) s) ?c2 ?_
    case c2 =>
      intro Qs hQs
      refine hide fun GG hGG => ?_
      obtain ⟨rC, ⟨nC, mC⟩, hlC, hrC⟩ := H.kc
      obtain ⟨x0, x1, rC, rfl⟩ := two_of hlC
      obtain ⟨_, _, _, _, mx0⟩ := hrC 0 _ rfl
      obtain ⟨_, _, _, _, mx1⟩ := hrC 1 _ rfl
      replace mC : (C, W.listOf (.ref x0 :: .ref x1 :: rC.map .ref).toArray nC) ∈ Z := mC
      clear hlC
      clear hrC
      obtain ⟨v5, o5, m5, d5⟩ := H.c5
      refine hGG ?_
      clear hGG
      refine N_of ?_
      k_steps
      rename Fr _ _ _ _ => F9
      rename News _ _ _ _ => N9
      rename _ = Data.cell _ => d9
      rename (∀ b ob, (b, ob) ∈ _ → b ≠ _ → (b, ob) ∈ _) ∧ _ => P9
      exact hQs _ ⟨_, _, m, _, F9, N9, hmC, _, (H.mono tl1).spread P9 d9⟩
    clear hmC F N H
    refine LSt.all fun h tk m Z F N => ?_
    rintro ⟨hmC, td, H⟩
    refine N_seq (LSt L' (fun m Z => B3 L' m Z C l tl xs (mx (sideC xs l 0)) td) s) ?c3 ?_
    case c3 =>
      intro Qs hQs
      obtain ⟨v6, o6, m6, d6⟩ := H.c6
      refine N_of ?_
      k_steps
      rename Fr _ _ _ _ => F9
      rename News _ _ _ _ => N9
      rename _ = Data.cell _ => d9
      rename (∀ b ob, (b, ob) ∈ _ → b ≠ _ → (b, ob) ∈ _) ∧ _ => P9
      exact hQs _ ⟨_, _, m, _, F9, N9, hmC, (H.mono tl1).places P9 d9, _, ⟨_, .head _, d9⟩, .tail _ (P9.2 _ _ (.head _) (fun v e => by cases e))⟩
    clear hmC F N H
    refine LSt.all fun h tk m Z F N => ?_
    rintro ⟨hmC, H, Pl, hPc, mP⟩
    generalize hDd : mx (sideC xs l 0) = D at *
    have HT := H.toT N hPc mP
    clear H hPc
    refine N_seq (LSt L' (fun _ Z => B4 L' Z C Pl l tl xs D td) s) ?c4 ?_
    case c4 =>
      intro Qs hQs
      refine N_For ?_
      k_steps
      rename Fr _ _ _ _ => F4
      rename News _ _ _ _ => N4
      refine iter_rangeN (n := 6) (by assumption) (by decide) (by decide) F4 N4 ?_
      intro J h1 F1 N1 l1
      dsimp only
      refine N_turns 6 (fun (j : Nat) s'' => LSt L' (fun m Z => B5 L' m Z C Pl l tl xs D td J j) s s'') ?turn2 ?fin2 6 0 _ rfl (by omega) ?init2
      case init2 =>
        exact ⟨_, _, m, _, F1, N1, hmC, HT.mono tl1, .head _, #[], 0, .tail _ mP, ⟨fun _ => rfl, fun _ => ⟨rfl, fun _ => 0, fun i hi => absurd hi (Nat.not_lt_zero _)⟩⟩⟩
      case fin2 =>
        clear l1 F1 N1 F4 N4 HT mP hmC
        refine LSt.all fun h tk m Z F N => ?_
        rintro ⟨hmC, H, mJ, its, nP, mP, hP⟩
        obtain ⟨Z1, N1, mv, be⟩ := news_pull N mJ
        refine end_rangeN (pre := []) rfl F N1 (by omega) be.ne ?_
        intro h2 F2 N2
        exact ⟨rfl, hQs _ ⟨_, _, m, _, F2, N2, H.pullI N mJ mv, its, nP, mv _ _ mP (news_ne N mP mJ fun e => by cases congrArg Obj.data e), hP⟩⟩
      case turn2 =>
        clear l1 F1 N1 F4 N4 HT mP hmC
        intro j hj
        refine LSt.all fun h tk m Z F N => ?_
        rintro ⟨hmC, H, mJ, its, nP, mP, hP⟩ Qt hQt
        have hJP := news_ne N mJ mP fun e => by cases congrArg Obj.data e
        obtain ⟨Z1, N1, mv, be⟩ := news_pull N mJ
        have H1 := H.pullI N mJ mv
        have mP1 := mv _ _ mP (Ne.symm hJP)
        clear H mP mJ mv N
        refine' next_rangeN F N1 ?hl ?hU ?_
        case hU => exact Upd.head be.ne
        case hl => omega
        intro h2 t9 tk2 F2 N2
        refine ⟨_, rfl, wpAny_of_eq rfl ?_⟩
        dsimp only
        clear F N1 be
        obtain ⟨Z2, N2, H, mP, mJ⟩ : ∃ Z2, News s.heap L' h2 Z2 ∧ LtZ L' C Pl l tl xs D td Z2 ∧ (Pl, W.listOf its nP) ∈ Z2 ∧ (J, rIt ((j : Int) + 1) (6 - (j : Int) - 1)) ∈ Z2 :=
          ⟨_, N2, H1.mono tl1, .tail _ mP1, .head _⟩
        clear H1 mP1
        k_steps
        rename Fr _ _ _ _ => F8
        rename News _ _ _ _ => N8
        obtain ⟨m1, F7, h1C, h1k⟩ : ∃ m1 : Str → Option Value, Fr s.heap L' _ m1 ∧ m1 (Str.ofString "corners") = some (.ref C) ∧ m1 (Str.ofString "k") = some (.int (j : Int) t9) :=
          ⟨_, F8, (if_neg (by decide)).trans hmC, if_pos rfl⟩
        clear F8
        have hs0 := sideC_zero xs l j
        have hs255 := sideC_255 hl xbd j hj
        have hsD : mx (sideC xs l j) = D := (hD j hj)
        have hs90 : D ≤ 90 := hsD ▸ sideC_90 hl xbd j hj
        refine N_seq (LSt L' (fun m Z => D3 m (Str.ofString "red") (Str.ofString "green") (Str.ofString "blue") (divI (sideC xs l j).1 256) (divI (sideC xs l j).2.1 256) (divI (sideC xs l j).2.2 256) (D0 L' m Z C Pl l tl xs D td J (rIt ((j : Int) + 1) (6 - (j : Int) - 1)) its nP)) s) ?d1 ?_
        case d1 =>
          intro Qs hQs
          refine hide fun GG hGG => ?_
          obtain ⟨rC, ⟨nC, mC⟩, hlC, hrC⟩ := H.kc
          have hrC := fun j x e => (hrC j x e).1
          obtain ⟨it0, l0⟩ := rc_at (a := C) hlC hrC j hj
          obtain ⟨it1, l1⟩ := rc_at (a := C) hlC hrC ((j + 1) % 6) (Nat.mod_lt _ (by decide))
          have ej : ((j : Int) + 1).fmod 6 = (((j + 1) % 6 : Nat) : Int) := by rw [Int.fmod_eq_emod_of_nonneg _ (by decide)]; omega
          have hit0 : (rC.map Value.ref).toArray[((j : Nat) : Int).toNat]? = some (.ref (rC.getD j 0)) := it0
          have hit1 : (rC.map Value.ref).toArray[(((j : Int) + 1).fmod 6).toNat]? = some (.ref (rC.getD ((j + 1) % 6) 0)) := by rw [ej]; exact it1
          have ge1 : 0 ≤ ((j : Int) + 1).fmod 6 := by rw [ej]; omega
          have lt1 : ((j : Int) + 1).fmod 6 < 2 ^ 63 := by rw [ej]; omega
          obtain ⟨_, _, _, _, mx0⟩ := l0
          obtain ⟨_, _, _, _, mx1⟩ := l1
          clear hrC it0 it1 ej
          generalize rC.getD j 0 = c0 at *
          generalize rC.getD ((j + 1) % 6) 0 = c1 at *
          have hb1 : 0 ≤ (lessC (Ks xs l ((j + 1) % 6 + 4)) (Ks xs l (j + 4))).1 ∧ (lessC (Ks xs l ((j + 1) % 6 + 4)) (Ks xs l (j + 4))).1 ≤ 255 := ⟨hs255.1, hs255.2.1⟩
          have hb2 : 0 ≤ (lessC (Ks xs l ((j + 1) % 6 + 4)) (Ks xs l (j + 4))).2.1 ∧ (lessC (Ks xs l ((j + 1) % 6 + 4)) (Ks xs l (j + 4))).2.1 ≤ 255 := ⟨hs255.2.2.1, hs255.2.2.2.1⟩
          have hb3 : 0 ≤ (lessC (Ks xs l ((j + 1) % 6 + 4)) (Ks xs l (j + 4))).2.2 ∧ (lessC (Ks xs l ((j + 1) % 6 + 4)) (Ks xs l (j + 4))).2.2 ≤ 255 := ⟨hs255.2.2.2.2.1, hs255.2.2.2.2.2⟩
          have hs0' := Hide.mk hs0
          have hs255' := Hide.mk hs255
          clear hs0 hs255
          refine hGG ?_
          clear hGG
          refine N_of ?_
          k_steps
          refine ⟨fun g => ?_⟩
          (try dsimp only)
          clear hs0' hs255'
          have hb9 : ∀ i, i < 3 → 0 ≤ [(lessC (Ks xs l ((j + 1) % 6 + 4)) (Ks xs l (j + 4))).1, (lessC (Ks xs l ((j + 1) % 6 + 4)) (Ks xs l (j + 4))).2.1, (lessC (Ks xs l ((j + 1) % 6 + 4)) (Ks xs l (j + 4))).2.2].getD i 0 ∧ [(lessC (Ks xs l ((j + 1) % 6 + 4)) (Ks xs l (j + 4))).1, (lessC (Ks xs l ((j + 1) % 6 + 4)) (Ks xs l (j + 4))).2.1, (lessC (Ks xs l ((j + 1) % 6 + 4)) (Ks xs l (j + 4))).2.2].getD i 0 ≤ 255 := fun i hi => three_all (P := fun q => 0 ≤ q ∧ q ≤ 255) hb1 hb2 hb3 hi
          rw [show sideC xs l j = lessC (Ks xs l ((j + 1) % 6 + 4)) (Ks xs l (j + 4)) from rfl] at hQs
          generalize lessC (Ks xs l ((j + 1) % 6 + 4)) (Ks xs l (j + 4)) = c9 at *
          refine rest_all 3 (fun i ys news => YI (fun j t => .float (divI ([c9.1, c9.2.1, c9.2.2].getD j 0) 256) t) i ys ∧ news = _) ?st ?fn 3 0 [] _ rfl ⟨YI.nil _, rfl⟩
          case st =>
            rintro i ys _ hi ⟨HI, rfl⟩ v I oI C9 oC D9 m₂ h9 tk9 E' hv hC hx F9 N9 off ne Q' hQ'
            obtain ⟨w9, rfl⟩ := three_itemI hi hv
            clear hv
            have hb8 := hb9 i hi
            (try dsimp only)
            k_steps
            exact hQ' _ _ (LCg.CompEnd.intro F9 N9 _ (fun q hq => hq) off (by lcg_src) ⟨HI.snoc, rfl⟩)
          case fn =>
            rintro ys _ ⟨HI, rfl⟩
            obtain ⟨w9, rfl⟩ : ∃ w : Nat → Tok, ys = [.float (divI c9.1 256) (w 0), .float (divI c9.2.1 256) (w 1), .float (divI c9.2.2 256) (w 2)] := HI.three
            (try dsimp only)
            k_steps
            rename Fr _ _ _ _ => F9
            rename News _ _ _ _ => N9
            exact hQs _ ⟨_, _, _, _, F9, N9, ⟨(if_neg (by decide)).trans ((if_neg (by decide)).trans ((if_neg (by decide)).trans h1C)), H.mono tl2, tl2 _ mJ, tl2 _ mP⟩, _, _, _, (if_neg (by decide)).trans ((if_neg (by decide)).trans (if_pos rfl)), (if_neg (by decide)).trans (if_pos rfl), if_pos rfl⟩
        have hnz : NoZ (divI (sideC xs l j).1 256) (divI (sideC xs l j).2.1 256) (divI (sideC xs l j).2.2 256) := noz_divI ⟨hs255.1, hs255.2.1⟩ ⟨hs255.2.2.1, hs255.2.2.2.1⟩ ⟨hs255.2.2.2.2.1, hs255.2.2.2.2.2⟩
        obtain ⟨sp1, sp2, sp3, sp4⟩ := side_plain hs0 hs255 hsD hs90
        clear h1C h1k H mJ mP N8 F7 hs0 hs255
        generalize divI (sideC xs l j).1 256 = R9 at *
        generalize divI (sideC xs l j).2.1 256 = G9 at *
        generalize divI (sideC xs l j).2.2 256 = B9 at *
        refine LSt.all fun h tk m Z F N => ?_
        rintro ⟨⟨hmC, H, mJ, mP⟩, ta, tb, tc, hmr, hmg, hmb⟩
        refine N_seq (LSt L' (fun m Z => D3 m (Str.ofString "hue") (Str.ofString "light") (Str.ofString "share") (hlsF R9 G9 B9).1 (hlsF R9 G9 B9).2.1 (hlsF R9 G9 B9).2.2 (D0 L' m Z C Pl l tl xs D td J (rIt ((j : Int) + 1) (6 - (j : Int) - 1)) its nP)) s) ?d2 ?_
        case d2 =>
          intro Qs hQs
          refine N_of ?_
          k_steps
          rename Fr _ _ _ _ => F9
          rename News _ _ _ _ => N9
          exact hQs _ ⟨_, _, _, _, F9, N9, ⟨(if_neg (by decide)).trans ((if_neg (by decide)).trans ((if_neg (by decide)).trans hmC)), H.mono tl1, tl1 _ mJ, tl1 _ mP⟩, _, _, _, (if_neg (by decide)).trans ((if_neg (by decide)).trans (if_pos rfl)), (if_neg (by decide)).trans (if_pos rfl), if_pos rfl⟩
        clear hmC H mJ mP N F hmr hmg hmb hnz
        generalize hlsF R9 G9 B9 = q9 at *
        refine LSt.all fun h tk m Z F N => ?_
        rintro ⟨⟨hmC, H, mJ, mP⟩, ta, tb, tc, hmh, hml, hms⟩
        refine N_seq (LSt L' (fun m Z => D0 L' m Z C Pl l tl xs D td J (rIt ((j : Int) + 1) (6 - (j : Int) - 1)) its nP ∧ m (Str.ofString "hue") = some (.float q9.1 ta)) s) ?d3 ?_
        case d3 =>
          intro Qs hQs
          obtain ⟨o5, m5, d5⟩ := H.c5
          refine N_of ?_
          k_steps
          rename Fr _ _ _ _ => F9
          rename News _ _ _ _ => N9
          exact hQs _ ⟨_, _, m, _, F9, N9, ⟨hmC, H.mono tl2, tl2 _ mJ, tl2 _ mP⟩, hmh⟩
        clear hmC H mJ mP N F hmh hml hms
        refine LSt.all fun h tk m Z F N => ?_
        rintro ⟨⟨hmC, H, mJ, mP⟩, hmh⟩
        have eit : rIt ((j : Int) + 1) (6 - (j : Int) - 1) = rIt ((j + 1 : Nat) : Int) (6 - ((j + 1 : Nat) : Int)) := by
          rw [show (6 : Int) - ((j + 1 : Nat) : Int) = 6 - (j : Int) - 1 by omega]; rfl
        rw [eit] at mJ
        clear eit
        refine N_seq (LSt L' (fun m Z => B5 L' m Z C Pl l tl xs D td J (j + 1)) s) ?d4 (fun s' hs' => N_nil (hQt _ hs'))
        case d4 =>
          intro Qs hQs
          refine hide fun GG hGG => ?_
          obtain ⟨o5, m5, d5⟩ := H.c5
          obtain ⟨o6, m6, d6⟩ := H.c6
          refine hGG ?_
          clear hGG
          refine N_of ?_
          by_cases h0 : D = 0
          · rw [sp1 h0] at hmh
            clear sp1 sp2 sp3 sp4
            k_steps
            exact hQs _ ⟨_, _, m, _, by assumption, by assumption, hmC, H, mJ, its, nP, mP, hP.zero h0⟩
          · obtain ⟨n9, hfn, hto⟩ := sp4 h0
            have hsz : its.size ≤ sizeLine := by rw [(hP.2 h0).1]; exact Nat.le_trans (show j ≤ 8 by omega) (by decide)
            have hDf : D.natAbs < 2 ^ 1023 := by
              have : 0 ≤ D ∨ D < 0 := by omega
              have h1 : 0 ≤ D := hsD ▸ (show 0 ≤ mx _ by have := sideC_zero xs l j; unfold Zero at this; unfold mx; omega)
              omega
            have K1 := fun t => hP.push (t := t) h0 hto
            have hJP := news_ne N mJ mP fun e => by cases congrArg Obj.data e
            have K2 := fun W P => H.app (Z' := W) N mP P
            clear sp1 sp2 sp3 sp4
            k_steps
            rename Fr _ _ _ _ => F9
            rename News _ _ _ _ => N9
            rename (∀ a o, (a, o) ∈ _ → a ≠ _ → (a, o) ∈ _) => P9
            exact hQs _ ⟨_, _, m, _, F9, N9, hmC, (K2 _ P9).mono tl1, .tail _ (P9 _ _ mJ hJP), _, _, .head _, K1 _⟩
    clear hmC HT mP F N
    refine LSt.all fun h tk m Z F N => ?_
    rintro ⟨H, its, nP, mP, hP⟩
    obtain ⟨o3, m3, d3⟩ := H.c3
    obtain ⟨o5, m5, d5⟩ := H.c5
    obtain ⟨o6, m6, d6⟩ := H.c6
    clear H
    refine N_of ?_
    by_cases h0 : D = 0
    · obtain rfl := hP.1 h0
      clear hP hDd hD
      k_steps
      rename Fr _ _ _ _ => F9
      exact hret _ _ F9.keep
    · obtain ⟨hs6, p, hp6⟩ := hP.2 h0
      have hfm : ∀ k, k < 6 → (p k - p ((k + 5) % 6) - l * D).fmod (6 * D) = 0 := fun k hk => by
        have := places_f hl hDd h0 (fun i hi => (hp6 i hi).2) ((k + 5) % 6) (Nat.mod_lt _ (by decide))
        rwa [show ((k + 5) % 6 + 1) % 6 = k by omega] at this
      have ne6 : 6 * D ≠ 0 := by omega
      have hp1 := fun i hi => (hp6 i hi).1
      clear hP hDd hD hp6
      k_steps
      refine ⟨fun g => ?_⟩
      (try dsimp only)
      refine restT_none 6 _ ?st ?fn 6 0 rfl
      case st =>
        intro k hk v I oI C9 oC D9 m₂ h9 tk9 E' hv hC hx F9 N9 off ne Q' hQ'
        obtain ⟨tt, ev⟩ := hv
        rw [Int.zero_add] at ev
        subst ev
        obtain ⟨ta, ha⟩ := hp1 k hk
        obtain ⟨tb, hb⟩ := hp1 ((k + 5) % 6) (Nat.mod_lt _ (by decide))
        have ha' : its[((k : Nat) : Int).toNat]? = some (.int (p k) ta) := ha
        have hf := hfm k hk
        clear hp1 hfm ha
        generalize p ((k + 5) % 6) = pb at *
        generalize p k = pa at *
        k_steps
        refine hQ' _ (LCg.CompEnd.intro (by assumption) (by assumption) _ (fun q hq => hq) off True.intro rfl)
      case fn =>
        k_steps
        rename Fr _ _ _ _ => F9
        exact hret _ _ F9.keep
  case turn =>
    clear ts' en1 N1 F1 hc2 hc3 hc4 hc5 hc6 hR hC hM hmC hmM
    intro i hi
    refine LSt.all fun h tk m Z F N => ?_
    rintro ⟨hmC, hmM, R, r, H, hring, hzero⟩ Qt hQt
    obtain ⟨tv, hv⟩ := hvs i hi
    refine enum_turn rfl hEI hSE hSI F N H.en hv ?_
    intro T t h' tk' Z' F' N' en' P' hT
    have H' := H.next N P' en'
    clear N F H P' en'
    dsimp only
    k_steps
    rename Fr _ _ _ _ => F8
    rename News _ _ _ _ => N8
    obtain ⟨m1, F7, h1s, h1t, h1C, h1M⟩ : ∃ m1 : Str → Option Value, Fr s.heap L' _ m1 ∧ m1 (Str.ofString "step") = some (.int (i : Int) t) ∧ m1 (Str.ofString "text") = some (.str (zoneS (z i) (e (z i))) tv) ∧ m1 (Str.ofString "corners") = some (.ref C) ∧ m1 (Str.ofString "mixed") = some (.ref M) :=
      ⟨_, F8, (if_neg (by decide)).trans (if_pos rfl), if_pos rfl, (if_neg (by decide)).trans ((if_neg (by decide)).trans hmC), (if_neg (by decide)).trans ((if_neg (by decide)).trans hmM)⟩
    clear F8
    have hzi := perm_bd hp i hi
    refine N_seq (LSt L' (fun m Z => (T0 L' m Z C M E It S vt l tl xs R r (i + 1) (.int (i : Int) t) (.str (zoneS (z i) (e (z i))) tv))) s) ?b1 ?_
    case b1 =>
      intro Qs hQs
      refine N_of ?_
      by_cases hi4 : i = 4
      · subst hi4
        have hpp : (List.take 4 [z 0, z 1, z 2, z 3, z 4] ++ [(l : Int)]).Perm [1, 2, 3, 4, 5] := by rw [← hz4]; exact hp
        have hrc := H'.rc
        have hkc := H'.kc
        have heq : ∀ k, k < 6 → r k = Ks xs l (k + 4) := fun k hk => ring_corner hl hring (hzero (by decide)) hpp k hk
        obtain ⟨o2, m2, d2⟩ := H'.c2
        k_steps
        exact hQs _ ⟨_, _, m1, _, F7, by assumption, h1s, h1t, h1C, h1M, H'⟩
      · obtain ⟨o2, m2, d2⟩ := H'.c2
        have hi4' : ¬ ((i : Nat) : Int) = 4 := by omega
        k_steps
        exact hQs _ ⟨_, _, m1, _, F7, by assumption, h1s, h1t, h1C, h1M, H'⟩
    clear h1s h1t h1C h1M H' N8 F7
    refine LSt.all fun h tk m Z F N => ?_
    rintro ⟨hms, hmt, hmC, hmM, H⟩
    refine N_seq (LSt L' (fun m Z => T2 m (secZ (z i) (e (z i))) (T0 L' m Z C M E It S vt l tl xs R r (i + 1) (.int (i : Int) t) (.str (zoneS (z i) (e (z i))) tv))) s) ?b2 ?_
    case b2 =>
      intro Qs hQs
      refine N_of ?_
      have hei := he (z i) hzi
      k_steps
      rename Fr _ _ _ _ => F9
      rename News _ _ _ _ => N9
      exact hQs _ ⟨_, _, _, _, F9, N9, ⟨(if_neg (by decide)).trans hms, (if_neg (by decide)).trans hmt, (if_neg (by decide)).trans hmC, (if_neg (by decide)).trans hmM, H⟩, _, if_pos rfl⟩
    clear hms hmt hmC hmM H N F
    refine LSt.all fun h tk m Z F N => ?_
    rintro ⟨⟨hms, hmt, hmC, hmM, H⟩, tsec, hsec⟩
    refine N_seq (LSt L' (fun m Z => T3 L' Z (T0 L' m Z C M E It S vt l tl xs R r (i + 1) (.int (i : Int) t) (.str (zoneS (z i) (e (z i))) tv)) ∧ m (Str.ofString "seconds") = some (.int (secZ (z i) (e (z i))) tsec)) s) ?b3 ?_
    case b3 =>
      intro Qs hQs
      refine N_of ?_
      obtain ⟨v4, o4, m4, d4⟩ := H.c4
      obtain ⟨Z1, N1, mv, be⟩ := news_pull N m4
      have K1 := fun o' v' W d hs => H.set4 (o' := o') (v' := v') (W := W) N mv d hs
      k_steps
      rename Fr _ _ _ _ => F9
      rename News _ _ _ _ => N9
      rename _ = Data.cell _ => d9
      exact hQs _ ⟨_, _, _, _, F9, N9, ⟨⟨hms, hmt, hmC, hmM, K1 _ _ _ d9 tl1⟩, _, ⟨_, .tail _ (.head _), d9⟩, ⟨0, .head _⟩⟩, hsec⟩
    clear hms hmt hmC hmM H N F hsec
    refine LSt.all fun h tk m Z F N => ?_
    rintro ⟨⟨⟨hms, hmt, hmC, hmM, H⟩, Tn, hTc, hTl⟩, hsec⟩
    refine N_seq (LSt L' (fun m Z => T4 L' Z Tn 6 (z i) r (T0 L' m Z C M E It S vt l tl xs R r (i + 1) (.int (i : Int) t) (.str (zoneS (z i) (e (z i))) tv))) s) ?b4 ?_
    case b4 =>
      intro Qs hQs
      refine N_For ?_
      k_steps
      rename Fr _ _ _ _ => F4
      rename News _ _ _ _ => N4
      refine iter_rangeN (n := 6) (by assumption) (by decide) (by decide) F4 N4 ?_
      intro J h1 F1 N1 l1
      dsimp only
      refine N_turns 6 (fun (j : Nat) s'' => LSt L' (fun m Z => T5 m Z (.int (secZ (z i) (e (z i))) tsec) J (rIt (j : Int) (6 - (j : Int))) (T4 L' Z Tn j (z i) r (T0 L' m Z C M E It S vt l tl xs R r (i + 1) (.int (i : Int) t) (.str (zoneS (z i) (e (z i))) tv)))) s s'') ?turn ?fin 6 0 _ rfl (by omega) ?init
      case init =>
        exact ⟨_, _, m, _, F1, N1, hsec, .head _, ⟨hms, hmt, hmC, hmM, H.mono tl1⟩, [], fun _ => (0, 0, 0), hTc.mono tl1, hTl.mono tl1, rfl, fun j x e => by cases e⟩
      case fin =>
        clear l1 F1 N1 F4 N4 H hTc hTl hms hmt hmC hmM hsec
        refine LSt.all fun h tk m Z F N => ?_
        rintro ⟨hsec, mJ, ⟨hms, hmt, hmC, hmM, H⟩, rs, tf, hTc, hTl, hlr, hrs⟩
        obtain ⟨Z1, N1, mv, be⟩ := news_pull N mJ
        refine end_rangeN (pre := []) rfl F N1 (by omega) be.ne ?_
        intro h2 F2 N2
        exact ⟨rfl, hQs _ ⟨_, _, m, _, F2, N2, ⟨hms, hmt, hmC, hmM, H.pullI N mJ mv⟩, rs, tf, hTc.pullI N mJ mv, hTl.pullI N mJ mv, hlr, fun j x e => ⟨(hrs j x e).1.pullI N mJ mv, (hrs j x e).2⟩⟩⟩
      case turn =>
        clear l1 F1 N1 F4 N4 H hTc hTl hms hmt hmC hmM hsec
        intro j hj
        refine LSt.all fun h tk m Z F N => ?_
        rintro ⟨hsec, mJ, ⟨hms, hmt, hmC, hmM, H⟩, rs, tf, hTc, hTl, hlr, hrs⟩ Qt hQt
        obtain ⟨Z1, N1, mv, be⟩ := news_pull N mJ
        have H1 := H.pullI N mJ mv
        have hTc1 := hTc.pullI N mJ mv
        have hTl1 := hTl.pullI N mJ mv
        have hrs1 : ∀ (j : Nat) x, rs[j]? = some x → L3 Z1 x (tf j) ∧ IsTurn (z i) (r j) (tf j) := fun j x e => ⟨(hrs j x e).1.pullI N mJ mv, (hrs j x e).2⟩
        clear H hTc hTl hrs mJ mv N
        refine' next_rangeN F N1 ?hl ?hU ?_
        case hU => exact Upd.head be.ne
        case hl => omega
        intro h2 t9 tk2 F2 N2
        refine ⟨_, rfl, wpAny_of_eq rfl ?_⟩
        dsimp only
        clear F N1 be
        obtain ⟨Z2, N2, H, hTc, ⟨nT, mT⟩, hrs, mJ⟩ : ∃ Z2, News s.heap L' h2 Z2 ∧ LpZ L' C M E It S vt l tl xs R r (i + 1) Z2 ∧ CellIs Z2 (L' + 1 + 1 + 1 + 1) (some (.ref Tn)) ∧ LR Z2 Tn rs ∧ (∀ (j : Nat) x, rs[j]? = some x → L3 Z2 x (tf j) ∧ IsTurn (z i) (r j) (tf j)) ∧ (J, rIt ((j : Int) + 1) (6 - (j : Int) - 1)) ∈ Z2 :=
          ⟨_, N2, H1.mono tl1, hTc1.mono tl1, hTl1.mono tl1, fun j x e => ⟨(hrs1 j x e).1.mono tl1, (hrs1 j x e).2⟩, .head _⟩
        clear H1 hTc1 hTl1 hrs1
        obtain ⟨o4, m4, d4⟩ := hTc
        obtain ⟨o2, m2, d2⟩ := H.c2
        obtain ⟨rR, ⟨nR, mR⟩, hlR, hrR⟩ := H.rc
        have hxj : rR[j]? = some (rR.getD j 0) := by rw [List.getD_eq_getElem?_getD, List.getElem?_eq_getElem (by omega)]; rfl
        have hit : (rR.map Value.ref).toArray[((j : Nat) : Int).toNat]? = some (.ref (rR.getD j 0)) := by
          show (rR.map Value.ref).toArray[j]? = _
          rw [List.getElem?_toArray, List.getElem?_map, hxj]; rfl
        obtain ⟨u1, u2, u3, nx, mx⟩ := hrR j _ hxj
        have hin := hring.parts j hj
        have hbd := bd_turn hi
        have hei := he (z i) hzi
        have hsz : (rs.map Value.ref).toArray.size ≤ sizeLine := by
          rw [List.size_toArray, List.length_map, hlr]; exact Nat.le_trans (show j ≤ 8 by omega) (by decide)
        generalize rR.getD j 0 = xj at *
        have hv0 : ∃ s t, vt[0]? = some (Value.str s t) := let ⟨t, e⟩ := hvs 0 (by decide); ⟨_, t, e⟩
        have fin : ∀ (h9 : Heap) (tk9 : Nat) (Z9 : List (Addr × Obj)) (v : Addr) (d' : Col) (p1 p2 p3 : Tok) (n9 : Nat), Fr s.heap L' h9 (fun y => if y = Str.ofString "k" then some (.int (j : Int) t9) else m y) → News s.heap L' h9 ((Tn, W.listOf ((rs.map Value.ref).toArray.push (.ref v)) (nT + 1)) :: Z9) →
            (∀ a o, (a, o) ∈ (v, W.listOf #[.int d'.1 p1, .int d'.2.1 p2, .int d'.2.2 p3] n9) :: Z2 → o ≠ W.listOf (rs.map Value.ref).toArray nT → (a, o) ∈ Z9) → IsTurn (z i) (r j) d' →
            Qt .next { s with heap := h9, toks := tk9 } := fun h9 tk9 Z9 v d' p1 p2 p3 n9 F9 N9 P9 ht => by
          refine hQt _ ⟨_, _, _, _, F9, N9, (if_neg (by decide)).trans hsec, ?_, ⟨(if_neg (by decide)).trans hms, (if_neg (by decide)).trans hmt, (if_neg (by decide)).trans hmC, (if_neg (by decide)).trans hmM, ((H.mono tl1).app (by omega) hv0 P9).mono tl1⟩, rs ++ [v], fun k => if k = j then d' else tf k, ⟨_, .tail _ (P9 _ _ (.tail _ m4) (cell_not_list d4)), d4⟩, LR.push (.head _), by rw [List.length_append, List.length_singleton, hlr], ?_⟩
          · rw [show (6 : Int) - ((j + 1 : Nat) : Int) = 6 - (j : Int) - 1 by omega]
            exact .tail _ (P9 _ _ (.tail _ mJ) it_not_list)
          · exact fun k x e => ⟨((turned_snoc hlr hrs tl1 P9 ⟨_, _, _, _, .head _⟩ ht k x e).1).mono tl1, (turned_snoc hlr hrs tl1 P9 ⟨_, _, _, _, .head _⟩ ht k x e).2⟩
        clear hrs
        by_cases hpar : (j + i) % 2 = 0
        · have hpf : ((j : Int) + (i : Int)).fmod 2 = 0 := by rw [Int.fmod_eq_emod_of_nonneg _ (by decide)]; omega
          k_steps
          refine N_acons ?_
          k_steps
          show wpN _ _ (execs [] _) _ _
          refine N_nil ?_
          rename Fr _ _ _ _ => F9
          rename News _ _ _ _ => N9
          rename IsTurn _ _ _ => ht9
          rename (∀ a o, (a, o) ∈ _ → o ≠ _ → (a, o) ∈ _) => P9
          exact fin _ _ _ _ _ _ _ _ _ F9 N9 P9 ht9
        · have hpf : ¬ ((j : Int) + (i : Int)).fmod 2 = 0 := by rw [Int.fmod_eq_emod_of_nonneg _ (by decide)]; omega
          k_steps
          refine N_cons (N_If ?_)
          k_steps
          refine N_cons (N_Expr ?_)
          rename News _ _ _ _ => N9
          k_dflt (refine N_append_cell (oc := o4) (D := Tn) N9 rfl m4 d4 mT rfl rfl (by decide) rfl rfl rfl rfl ?_)
          refine N_CallName ?_
          k_steps
          k_dflt (refine' N_callDefK ?kX ?ko ?_; (case kX => k_asm); (case ko => k_is))
          k_steps
          k_dflt (refine' oct_use ?k1 ?k2 ?k3 ?k4 ?k5 ?k6 ?k7 ?k8 ?m1 ?b1 ?b2 ?b3 ?_; (case k1 => k_asm); (case k2 => k_asm); (case k3 => k_asm); (case k4 => k_asm); (case k5 => k_asm); (case k6 => first | exact rfl | assumption); (case k7 => ktr_room); (case k8 => ktr_units); (case m1 => ((repeat with_reducible refine List.mem_cons_of_mem _ ?_); with_reducible assumption)); (case b1 => assumption); (case b2 => assumption); (case b3 => assumption))
          intro v' h' tk' p1' p2' p3' n' d' ht' F' N'
          dsimp only
          k_steps
          show wpN _ _ (execs [] _) _ _
          refine N_nil ?_
          show wpN _ _ (execs [] _) _ _
          refine N_nil ?_
          rename Fr _ _ _ _ => F9
          rename News _ _ _ _ => N9
          rename (∀ a o, (a, o) ∈ _ → o ≠ _ → (a, o) ∈ _) => P9
          exact fin _ _ _ _ _ _ _ _ _ F9 N9 P9 ht'
    clear hms hmt hmC hmM H N F hsec hTc hTl
    refine LSt.all fun h tk m Z F N => ?_
    rintro ⟨⟨hms, hmt, hmC, hmM, H⟩, rs, tf, hTc, ⟨nT, mT⟩, hlr, hrs⟩
    refine N_seq (fun s' => LpSt L' C M E It S vt l tl xs z (i + 1) s s') ?b5 (fun s' hs' => N_nil (hQt _ hs'))
    case b5 =>
      intro Qs hQs
      refine hide fun GG hGG => ?_
      obtain ⟨rR, ⟨nR, mR⟩, hlR, hrR⟩ := H.rc
      have hnext := ring_next hi hring (turned_all hlr hrs)
      have hrs' := fun j x e => (hrs j x e).1
      clear hrs hring
      obtain ⟨o2, m2, d2⟩ := H.c2
      obtain ⟨o4, m4, d4⟩ := hTc
      refine hGG ?_
      clear hGG
      refine N_of ?_
      k_steps
      refine ⟨fun g => ?_⟩
      (try dsimp only)
      refine rest_all 6 (RI Z (fun k => lessC (r ((k + 1) % 6)) (tf k))) ?st ?fn 6 0 [] _ rfl (RI.nil _ _)
      case st =>
        intro k ys news hk HI v I oI C9 oC D9 m₂ h9 tk9 E' hv hC hx F9 N9 off ne Q' hQ'
        obtain ⟨tt, ev⟩ := hv
        rw [Int.zero_add] at ev
        subst ev
        obtain ⟨hit1, u1, u2, u3, q1, l1⟩ := rc_at (a := R) hlR hrR ((k + 1) % 6) (Nat.mod_lt _ (by decide))
        obtain ⟨hit0, u4, u5, u6, q2, l2⟩ := rc_at (a := Tn) hlr hrs' k hk
        have ej : ((k : Int) + 1).fmod 6 = (((k + 1) % 6 : Nat) : Int) := by rw [Int.fmod_eq_emod_of_nonneg _ (by decide)]; omega
        have hit1' : (rR.map Value.ref).toArray[(((k : Int) + 1).fmod 6).toNat]? = some (.ref (rR.getD ((k + 1) % 6) 0)) := by rw [ej]; exact hit1
        have hit0' : (rs.map Value.ref).toArray[((k : Nat) : Int).toNat]? = some (.ref (rs.getD k 0)) := hit0
        have ge1 : 0 ≤ ((k : Int) + 1).fmod 6 := by rw [ej]; omega
        have lt1 : ((k : Int) + 1).fmod 6 < 2 ^ 63 := by rw [ej]; omega
        have ts := HI.sub
        have l1 := ts _ l1
        have l2 := ts _ l2
        have mR' := ts _ mR
        have mT' := ts _ mT
        have m2' := ts _ m2
        have m4' := ts _ m4
        clear hit1 hit0 ej ts mR mT m2 m4
        generalize rR.getD ((k + 1) % 6) 0 = x1 at *
        generalize rs.getD k 0 = x0 at *
        k_steps
        refine hQ' _ _ (CompEnd_newF (by assumption) (by assumption) (by assumption) off True.intro (HI.snoc ⟨_, _, _, _, .head _⟩))
      case fn =>
        intro ys news HI
        have m2' := HI.sub _ m2
        clear mR mT m2 m4
        k_steps
        rename Fr _ _ _ _ => F9
        rename News _ _ _ _ => N9
        rename _ = Data.cell _ => d9
        rename (∀ b ob, (b, ob) ∈ _ → b ≠ _ → (b, ob) ∈ _) ∧ _ => P9
        exact hQs _ ⟨_, _, m, _, F9, N9, hmC, hmM, _, fun k => lessC (r ((k + 1) % 6)) (tf k), (H.mono (fun q hq => .tail _ (HI.sub q hq))).set2Z P9 d9 (fun q hq => hq) (((HI.rc fun q hq => hq).stored P9).mono tl1), hnext, fun _ k hk => less_zero _ _⟩
end Mine
end
section
open PySem PySem.W PyProof.Rows PySem.Spec PySem.Calls PySem.Flt
set_option maxRecDepth 100000
set_option maxHeartbeats 0
namespace Mine
theorem fillX9 : (hd.heap_39 = hd.heap_39) ∧ (PySem.Challenge.rw_zo0002_01 = PySem.Challenge.rw_zo0002_01) := by
  k_fill
  exact ⟨rfl, rfl⟩
theorem law_at (w : World) (s : Shared) (a fa : Addr) (ns : List Int) (vs : List Value) (mean : ExcName → Option Value) (mg mb : Str → Option Value) (Q : Value → Shared → Prop) (T : Top V0 loose0 mean mg mb s.heap) (X : Frag.In (hd.heap_39 w.params) s.heap)
    (hmg : mg (Str.ofString "law") = some (.ref fa)) (hL : s.heap.IsList a vs.toArray) (hI : IntsAre vs ns) (hlay : PyData.layable0 (.list (ns.map .int)) = true) (hret : ∀ h' tk', (∀ b o, s.heap.get? b = some o → h'.get? b = some o) → Q (.bool true) { s with heap := h', toks := tk' }) :
    wpN (model P0 w) callerA (call (.ref fa) [.ref a]) Q s := by
  have hfa : (some (Value.ref 111) : Option Value) = some (Value.ref fa) := (mg_of X T.g (by k_is)).symm.trans hmg
  rw [← Option.some.inj hfa]
  exact law_ok w s a ns vs mean mg mb Q T X hL hI hlay hret
theorem mk_N {l : OpenLaw} {q : Program} {loose : List Str} {vs : List (Str × WData)} {H : Hook} {d : DefRec} {kwd : List (Str × PySem.Expr)} {run : Value → List Value → Sem Value} {N : Nat}
    (_h0 : WalkO q loose (XL q vs) (Hook.says H) l.row.toRowW d kwd run → l.Holds)
    (left : LeftO l.row.prog q loose (fun s => xlAt q vs s && recOk (RowW.records l.row.toRowW) s) (Hook.obs H) (Hook.val H) N)
    (hdef : defOf q l.row.name = some (d, kwd)) (hp : l.row.prog.theDef l.row.name = some (d.params, d.body, d.scope)) (hk : kwWritten? d.params.kwonlyargs d.params.kw_defaults = some kwd)
    (hwr : (!l.row.writes || l.row.records.isEmpty) = true)
    (k1 : l.row.wellSaid = true) (ok : (chainsOk q && opensWell l.row.prog && (frees l.row.toRowW && l.row.within.isEmpty)) = true) (hb : l.row.prog.bare) (hw : l.row.toRowW.promised)
    (walk : WalkH q loose (XL q vs) (Hook.says H) l.row.toRowW d kwd) : l.row.Holds :=
  holds_N (r := l.row) left (Hook.of H) (Hook.keeps H) (fun s e => xl_of s (Bool.and_eq_true_iff.mp e).1) XL.keeps hdef hp hk (fun s e => recFacts_of (Bool.and_eq_true_iff.mp e).2) hwr k1 ok hb hw walk
theorem topW : PySem.Challenge.rw_zo0002_01.Holds := by
  w_on
  o_law
  refine mk_N hd (LeftO.of_split _ hd._proof_42) (by rfl) (by rfl) (by rfl) (by rfl) (by assumption) hd._proof_40 ⟨rfl, rfl, rfl, rfl, rfl, hd._proof_41⟩ ?hw ?walk
  case hw => w_witness2
  case walk =>
    intro w s₀ s₁ mg mb G Y fa o pm cd doc dV kV ho hd hcd hD hmg hg args vals as hpre hlay hrd hwl hlo
    have KX := kIn_of Y
    have X := (Ground.X G).1
    have V := (Ground.X G).2
    refine Ground.open G ?_
    intro T B D TE TW
    clear B D TE TW G Y X V
    wrow_args hpre hlay hrd hwl hlo
    rename (¬ ((63 : Nat) : Int) < _) => hcl
    rename IntsAre _ _ => hI9
    rename Heap.IsList _ _ _ => hL9
    rename PyData.layable0 _ = true => hy9
    refine law_at w s₁ _ fa _ _ _ mg mb _ T KX hmg hL9 hI9 hy9 ?_
    intro h' tk' hk
    refine ⟨.inl ⟨Value.bool true, ofPy (.bool true), [], rfl, ?d1, ?r1, ?p1, ?u1⟩, .of_keep hk, rfl, ?g1⟩
    case d1 => exact raisesW_false (by wrow_none_raised)
    case r1 => exact readsW_of_reads (Reads.bool _)
    case u1 => first | exact unshared_nil | exact fun h => absurd h (by decide)
    case g1 => first | exact AllBare.of_eq hg | row_bare
    case p1 => exact postW_of (by wrow_shape) (by wtm_val) (by str_meet; first | done | w_fin)
end Mine
end
theorem PySem.Challenge.cw_zo0002_01_holds : PySem.Challenge.rw_zo0002_01.Holds := by
  exact Mine.topW
