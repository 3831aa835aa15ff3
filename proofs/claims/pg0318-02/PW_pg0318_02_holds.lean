import PyProof.Rows.All
import Wide.All
import OpenK.AllK
import Wide.FinOn
import Lean
import PySem.Challenge.RW_pg0318_02
open PySem PySem.W PyProof.Rows
set_option Elab.async false
set_option genSizeOf false
set_option genInjectivity false
set_option maxRecDepth 100000
set_option maxHeartbeats 8000000
set_option compiler.extract_closed false
-- THE HEAD, small: law's def alone is viewed; the top's run is one kernel check a value of the world's row
namespace Mine
def view : Program := { PySem.Challenge.pw_pg0318_02 with main := { PySem.Challenge.pw_pg0318_02.main with body := PySem.Challenge.pw_pg0318_02.main.body.drop 21 } }
def loose : List Str := ["_sre", "_wall", "_netrclex", "Whitespace", "tspecials", "_name_disallowed_re", "_value_disallowed_re", "_formatparam", "Headers", "_law_roads", "_law_text", "_law_reader", "_law_ridden", "_law_later", "_law_hours", "_law_goes", "_law_agree"].map Str.ofString
def seenX : Shared → Bool := fun s => xlAt view [] s && recOk (RowW.records PySem.Challenge.rw_pg0318_02.row.toRowW) s
noncomputable def topFromQ (p : Program) (w : World) (N : Nat) (s₀ : Shared) : Option Shared :=
  match s₀.heap.isNs mainGlobals && s₀.gens.size == 0 with
  | true => (PySem.W.Fast.tw14082659384304107361 PySem.W.Fast.tw14364793385576792824 p w s₀.heap.objs.size (PySem.W.Fast.tw8920871248978507458 s₀.heap mainGlobals "__annotations__") N s₀ (topStub p)).bind fun s₁ => match staticsOk (PySem.W.Fast.tw5923862056798008813 p.main.body) s₀.heap s₁.heap && namesBound p s₁.heap && gensDone s₁ && laidKept s₀.heap s₁.heap with
      | true => some s₁
      | false => none
  | false => none
noncomputable def runQ (p : Program) (w : World) (N : Nat) : Option Shared :=
  ((PySem.W.Fast.tw10274390034422433532 PySem.W.Fast.tw14364793385576792824 (opening p) w N (PySem.W.Fast.tw1435165496053646825 (opening p)).1 (PySem.W.Fast.tw1435165496053646825 (opening p)).2).bind (PySem.W.Fast.tw14289696077712309145 p)).bind (topFromQ p w N)
theorem runQ_eq (p : Program) (w : World) (N : Nat) : openEnds treeTable p w N = runQ p w N := by
  unfold openEnds fencedOpening runQ topFromQ; delta topFrom; simp only [PySem.W.Fast.te14082659384304107361, PySem.W.Fast.te10274390034422433532, PySem.W.Fast.te14289696077712309145, PySem.W.Fast.te1435165496053646825, PySem.W.Fast.te14364793385576792824, PySem.W.Fast.te5923862056798008813, PySem.W.Fast.te8920871248978507458]; rfl
-- what a heap holds at the written part's places (not by List.map: both sides of a check would stand under one name)
def getKeys (h : Heap) : List (Addr × Obj) → List (Option Obj)
  | [] => []
  | p :: r => h.get? p.1 :: getKeys h r
theorem getKeys_eq (h : Heap) : ∀ l, getKeys h l = (l.map (·.1)).map h.get?
  | [] => rfl
  | a :: r => by rw [getKeys, getKeys_eq h r]; rfl
def getAll (h : Heap) : List Addr → List (Option Obj)
  | [] => []
  | a :: r => h.get? a :: getAll h r
theorem getAll_eq (h : Heap) : ∀ l, getAll h l = l.map h.get?
  | [] => rfl
  | a :: r => by rw [getAll, getAll_eq h r]; rfl
def somes : List (Addr × Obj) → List (Option Obj)
  | [] => []
  | p :: r => some p.2 :: somes r
theorem somes_eq : ∀ l, somes l = l.map fun p => some p.2
  | [] => rfl
  | a :: r => by rw [somes, somes_eq r]; rfl
def tabs : List Addr → List (Option Obj)
  | [] => []
  | _ :: r => some (tabObj #[]) :: tabs r
theorem tabs_eq : ∀ l, tabs l = l.map fun _ => some (tabObj #[])
  | [] => rfl
  | a :: r => by rw [tabs, tabs_eq r]; rfl
abbrev Chk (p q : Program) (loose : List Str) (Xt : Shared → Bool) (N : Nat) (K : Params → Frag) (ts : List Addr) (w : World) : Prop :=
  (runQ p w N).map (fun s => (openSeen q loose (importedModules p.main.body) Xt true s, getKeys s.heap (K w.params), getAll s.heap ts)) = some (openGood q loose, somes (K w.params), tabs ts)
theorem left_km {p q : Program} {loose : List Str} {Xt : Shared → Bool} {N : Nat} {K : Params → Frag} {as : List Addr} {e : ∀ P, as = (K P).map (·.1)} {ts : List Addr} (row : String)
    (hf : ∀ w : World, Chk p q loose Xt N K ts (w.withFollow row false)) (ht : ∀ w : World, Chk p q loose Xt N K ts (w.withFollow row true)) :
    LeftO p q loose Xt (Hook.obs (kmHook K as e ts)) (Hook.val (kmHook K as e ts)) N := by
  have key : ∀ w : World, Chk p q loose Xt N K ts w := byRow2 row hf ht
  intro w
  have k := key w
  unfold Chk at k
  rw [runQ_eq]
  simp only [getKeys_eq, getAll_eq, somes_eq, tabs_eq, ← e] at k
  exact k
theorem holds_both {r : OpenRow} {q : Program} {loose : List Str} {Xt : Shared → Bool} {XP : (Str → Option Value) → Heap → Prop} {α : Type} {Yf : Shared → α} {Ya : World → α} {YP : World → Heap → Prop} {d : DefRec} {kwd : List (Str × PySem.Expr)} {N : Nat}
    (hY : ∀ w s, Yf s = Ya w → YP w s.heap) (hYk : ∀ w h h', YP w h → (∀ b o, h.get? b = some o → h'.get? b = some o) → YP w h')
    (hX : ∀ s, Xt s = true → XP (s.heap.nsMap mainGlobals) s.heap) (hXk : ∀ mg h h', XP mg h → (∀ b o, h.get? b = some o → h'.get? b = some o) → XP mg h')
    (hdef : defOf q r.name = some (d, kwd)) (hp : r.prog.theDef r.name = some (d.params, d.body, d.scope)) (hk : kwWritten? d.params.kwonlyargs d.params.kw_defaults = some kwd) (hRf : ∀ s, Xt s = true → RecFacts r.records s.heap) (hwr : (!r.writes || r.records.isEmpty) = true)
    (k1 : r.wellSaid = true) (ok : (chainsOk q && opensWell r.prog && (frees r.toRowW && r.within.isEmpty)) = true) (hb : r.prog.bare) (hw : r.toRowW.promised)
    (hc : LeftO r.prog q loose Xt Yf Ya N ∧ WalkO q loose XP YP r.toRowW d kwd fun f vs => PySem.call f vs) : r.Holds :=
  holds_open hc.1 hY hYk hX hXk hdef hp hk hRf hwr k1 ok hb hw hc.2
theorem law_said : PySem.Challenge.rw_pg0318_02.wellSaid = true := by
  unfold OpenLaw.wellSaid OpenRow.wellSaid OpenRow.partSaid looksOpen
  repeat' (with_reducible refine look_both ?_ ?_)
  all_goals decide +kernel
end Mine
local macro_rules | `(tactic| o_law) => `(tactic| refine holds_law Mine.law_said fun said => ?_)
local macro_rules | `(tactic| o_head $H) => `(tactic| (
  refine Mine.holds_both (q := Mine.view) (loose := Mine.loose) (Xt := Mine.seenX) (XP := XL Mine.view []) (Yf := Hook.obs $H) (Ya := Hook.val $H) (YP := Hook.says $H) (N := 4400) (Hook.of $H) (Hook.keeps $H) (fun s e => xl_of s (Bool.and_eq_true_iff.mp e).1) XL.keeps (by rfl) (by rfl) (by rfl) (fun s e => recFacts_of (Bool.and_eq_true_iff.mp e).2) (by rfl) (by first | assumption | decide +kernel) (by decide +kernel) ⟨rfl, rfl, rfl, rfl, rfl, by decide +kernel⟩ ?hw ?hc))
open_top Mine.hdm for PySem.Challenge.rw_pg0318_02
theorem Mine.chk_f (w : World) : Mine.Chk PySem.Challenge.pw_pg0318_02 Mine.view Mine.loose Mine.seenX 4400 Mine.hdm.heap_1 [308] (w.withFollow "special-get-raises" false) := by kernel_rfl
theorem Mine.chk_t (w : World) : Mine.Chk PySem.Challenge.pw_pg0318_02 Mine.view Mine.loose Mine.seenX 4400 Mine.hdm.heap_1 [308] (w.withFollow "special-get-raises" true) := by kernel_rfl

local macro_rules | `(tactic| omega) => `(tactic| lia)

-- a walk's line, built from a code: the holes, how each is met, what is named behind it
open Lean in
def Mine.cd (c : Char) : MacroM (TSyntax `tactic) := do
  match c with
  | 'a' => `(tactic| k_asm)
  | 'm' => `(tactic| k_mem)
  | 'd' => `(tactic| decide)
  | 's' => `(tactic| assumption)
  | 'o' => `(tactic| omega)
  | 'O' => `(tactic| first | assumption | omega)
  | 'r' => `(tactic| ktr_room)
  | 'u' => `(tactic| ktr_units)
  | 'k' => `(tactic| first | exact rfl | assumption)
  | 'U' => `(tactic| k_upd)
  | 'i' => `(tactic| k_is)
  | 'f' => `(tactic| exact rfl)
  | 'S' => `(tactic| k_sub)
  | 'A' => `(tactic| with_reducible assumption)
  | 'I' => `(tactic| k_inst)
  | 'w' => `(tactic| with_unfolding_all rfl)
  | 'W' => `(tactic| (intro _; with_unfolding_all rfl))
  | 'c' => `(tactic| (constructor <;> omega))
  | 'C' => `(tactic| first | exact ⟨by with_reducible assumption, by with_reducible assumption⟩ | (constructor <;> omega))
  | 'l' => `(tactic| (simp only [List.length_map]; omega))
  | 'z' => `(tactic| (rw [List.size_toArray, sizeLine_eq]; omega))
  | _ => `(tactic| walk_at $(Syntax.mkStrLit (toString c)))
def Mine.prs : List Char → List (Char × Char)
  | a :: b :: r => (a, b) :: Mine.prs r
  | _ => []
open Lean in
def Mine.ln (lem : Name) (p q : Nat) (wh : Bool) (cs : String) (g : Option Term) (ad ar : Nat) (post : String) : MacroM (TSyntax `tactic) := do
  let nm : Nat → Ident := fun i => mkIdent (Name.mkSimple ("qz" ++ toString i))
  let h1 ← (List.range p).toArray.mapM fun i => do let x := nm i; `(?$x:ident)
  let h2 ← (List.range q).toArray.mapM fun i => do let x := nm (p + i); `(?$x:ident)
  let hs : Array Term := (h1.push (← `(?_))) ++ h2
  let t0 ← (Mine.prs cs.toList).toArray.mapM fun (a, b) => do
    let x := nm (a.toNat - 65)
    let t ← Mine.cd b
    `(tactic| case $x:ident => $t:tactic)
  let sk ← `(tactic| skip)
  let ts := #[sk] ++ t0
  let vr : Char → MacroM Ident := fun c => do return mkIdent (← Macro.addMacroScope (Name.mkSimple ("v" ++ toString c)))
  let p0 ← ((post.splitOn " ").filter (· != "")).toArray.mapM fun w => do
    let xs ← (w.toList.drop 1).toArray.mapM vr
    let x := xs.getD 0 (mkIdent `v)
    match w.toList.headD 'D' with
    | 'I' => `(tactic| intro $xs:ident*)
    | 'F' => `(tactic| try k_fold)
    | 'W' => `(tactic| try k_sweep)
    | 'L' => `(tactic| try k_lt $x:ident)
    | 'M' => `(tactic| try k_lt2 $x:ident)
    | 'O' => do
      let o := mkIdent `Mine.offL
      `(tactic| (replace $x := $o:ident $x))
    | 'P' => do
      let o := mkIdent `Mine.OffL
      `(tactic| simp only [$o:ident, and_true] at $x:ident)
    | 'H' => do
      let y := xs.getD 1 x
      let z := xs.getD 2 x
      let o := mkIdent `Mine.hdNe
      `(tactic| try obtain ⟨n1, n2, n3, n4, n5, n6, n7, n8, n9⟩ := $o $x $y $z)
    | 'T' => `(tactic| walk_at $(Syntax.mkStrLit (String.ofList (w.toList.drop 1))))
    | 'U' => `(tactic| (refine' ⟨_, ?qu9, ?_⟩; (case qu9 => k_upd)))
    | _ => `(tactic| try dsimp only)
  let ps := #[sk] ++ p0
  let id := mkIdent lem
  let w ← if wh then `(tactic| k_whole) else `(tactic| skip)
  let s ← match g with
    | some g => `(tactic| with_reducible show $g)
    | none => if ad == 0 then `(tactic| skip) else do
      let n := Syntax.mkNumLit (toString ad)
      `(tactic| with_reducible show wpAny _ _ (call (Value.ref $n) _) _ _ _)
  let d ← if ar < 10 then `(tactic| skip) else `(tactic| try dsimp only [List.append_nil, List.nil_append])
  if ar % 10 == 9 then `(tactic| k_dflt (k_here; $d:tactic; $s:tactic; (refine' $id:ident $hs*; ($[$ts];*); $w:tactic); ($[$ps];*)))
  else `(tactic| (k_here; $d:tactic; $s:tactic; k_dflt (refine' $id:ident $hs*; ($[$ts];*); $w:tactic); ($[$ps];*)))

-- the same without a look at the goal, and with some first arguments left open
open Lean in
def Mine.ln2 (lem : Name) (pre p q : Nat) (wh : Bool) (cs : String) : MacroM (TSyntax `tactic) := do
  let nm : Nat → Ident := fun i => mkIdent (Name.mkSimple ("qz" ++ toString i))
  let us ← (List.range pre).toArray.mapM fun _ => `(term| _)
  let h1 ← (List.range p).toArray.mapM fun i => do let x := nm i; `(?$x:ident)
  let h2 ← (List.range q).toArray.mapM fun i => do let x := nm (p + i); `(?$x:ident)
  let hs : Array Term := us ++ (h1.push (← `(?_))) ++ h2
  let t0 ← (Mine.prs cs.toList).toArray.mapM fun (a, b) => do
    let x := nm (a.toNat - 65)
    let t ← Mine.cd b
    `(tactic| case $x:ident => $t:tactic)
  let sk ← `(tactic| skip)
  let ts := #[sk] ++ t0
  let id := mkIdent lem
  let w ← if wh then `(tactic| k_whole) else `(tactic| skip)
  `(tactic| (refine' $id:ident $hs*; ($[$ts];*); $w:tactic))

-- RULES OF OUR OWN: a def entered with what it may turn in the ledger alone; a loop by an invariant over map and ledger
namespace Mine
-- the function's Around and Env by name (the later terms are shorter)
theorem set_walk {M : Model} {A : Around} {l : List Stmt} {env : Env} {Q : Flow → Shared → Prop} {E : Value → Shared → Prop} {s : Shared} (h : let A₉ := A; let e₉ := env; wpAny M A₉ (execs l e₉) Q E s) : wpAny M A (execs l env) Q E s := h
-- room, by a check of written numbers
theorem room1 {d a b n : Nat} (h : d + a < n) (k : Nat.ble b a = true) : d + b < n := Nat.lt_of_le_of_lt (Nat.add_le_add_left (Nat.le_of_ble_eq_true k) d) h
theorem room2 {d a b c n : Nat} (h : d + a < n) (k : Nat.ble (b + c) a = true) : d + b + c < n := Nat.add_assoc d b c ▸ room1 h k
end Mine
namespace Mine
open PySem.Calls
section
variable {prog : Program} {w : World} {A A₀ : Around} {E : Value → Shared → Prop} {s : Shared} {K : Frag} {L : Addr} {h₀ base : Heap} {m mg mb : Str → Option Value} {p : Program} {loose : List Str} {mean : ExcName → Option Value}

theorem ltR {a b c : Nat} (h : b < c) (k : a < b) : a < c := Nat.lt_trans k h
def Keeps (fp : List Addr) (h h' : Heap) : Prop := ∀ b o, h.get? b = some o → b ∉ fp → h'.get? b = some o
theorem Keeps.refl {fp : List Addr} {h : Heap} : Keeps fp h h := fun _ _ e _ => e
theorem Keeps.trans {fp : List Addr} {h h' h'' : Heap} (a : Keeps fp h h') (b : Keeps fp h' h'') : Keeps fp h h'' := fun x o e n => b x o (a x o e n) n
theorem Keeps.mono {fp fp' : List Addr} {h h' : Heap} (a : Keeps fp h h') (k : ∀ x ∈ fp, x ∈ fp') : Keeps fp' h h' := fun x o e n => a x o e fun q => n (k x q)
theorem Fr.off {fp : List Addr} {h h' : Heap} (F : Fr h₀ L h m) (k : Keeps fp h h') (hf : ∀ x ∈ fp, x ≠ L ∧ h₀.get? x = none) : Fr h₀ L h' m := by
  obtain ⟨oL, a1, a2, hL, a3⟩ := F.ns
  refine ⟨⟨oL, a1, a2, k L oL hL fun q => (hf L q).1 rfl, a3⟩, fun b o e => k b o (F.keep b o e) fun q => ?_, F.above⟩
  rw [(hf b q).2] at e; cases e
theorem News.off {fp : List Addr} {h h' : Heap} {news : List (Addr × Obj)} (N : News h₀ L h news) (k : Keeps fp h h') (hf : ∀ p ∈ news, p.1 ∉ fp) : News h₀ L h' news :=
  fun p hp => ⟨k _ _ (N p hp).1 (hf p hp), (N p hp).2⟩
theorem News.sub {h : Heap} {news news' : List (Addr × Obj)} (N : News h₀ L h news) (k : ∀ p ∈ news', p ∈ news) : News h₀ L h news' := fun p hp => N p (k p hp)
theorem News.fp {h : Heap} {news : List (Addr × Obj)} (N : News h₀ L h news) : ∀ x ∈ news.map (·.1), x ≠ L ∧ h₀.get? x = none := fun x hx => by
  obtain ⟨p, hp, rfl⟩ := List.mem_map.mp hx
  exact (N p hp).2

end
-- maps of a frame, name by name
abbrev mput (k : Str) (v : Option Value) (m : Str → Option Value) : Str → Option Value := fun y => if y = k then v else m y
abbrev mnil : Str → Option Value := fun _ => none
def mlist : List (Str × Value) → Str → Option Value
  | [] => mnil
  | p :: r => mput p.1 (some p.2) (mlist r)
theorem mlist_at : ∀ (l : List (Str × Value)) (y : Str), List.lookup y l = mlist l y
  | [], _ => rfl
  | p :: r, y => by
    rw [mlist, List.lookup_cons]
    by_cases h : y = p.1
    · have : (y == p.1) = true := by simpa using h
      rw [this]; exact (if_pos h).symm
    · have : (y == p.1) = false := by simpa using h
      rw [this]; exact (mlist_at r y).trans (if_neg h).symm
theorem Fr.named {g h : Heap} {L : Addr} {b : List (Str × Value)} (l : List (Str × Value)) {m : Str → Option Value} (F : Fr g L h (fun y => List.lookup y b)) (e : b = l) (em : mlist l = m) : Fr g L h m := by
  have : (fun y => List.lookup y b) = m := funext fun y => (mlist_at b y).trans (by rw [e, em])
  exact this ▸ F
section
variable {prog : Program} {w : World} {A A₀ : Around} {E : Value → Shared → Prop} {s : Shared} {K : Frag} {L : Addr} {h₀ base : Heap} {m mg mb : Str → Option Value} {p : Program} {loose : List Str} {mean : ExcName → Option Value}
theorem enter_def (l : List (Str × Value)) {env : Env} {outer : List Env} {R : Result → Shared → Prop} {name qual : Str} {params : Arguments} {body : List Stmt} {scope : Scope} {dV kV doc pm cdv ct oc : Value} {an od : Option Addr} {osl : Array (Option Value)} {f : Addr} {args : Args} {binds : List (Str × Value)} {news : List (Addr × Obj)}
    (B : Below A₀ base outer h₀) (F : Fr h₀ L s.heap m) (X₀ : K.In h₀) (N : News h₀ L s.heap news) (T : Top p loose mean mg mb h₀) (hA : A.frames = some (env :: outer)) (hf : env.frame = some L) (hke : env.scope.kind = .function)
    (ho : K.lookup f = some ⟨oc, od, .func (fnOf name qual params body scope dV kV doc pm an cdv ct), osl⟩) (hcd : codeIn K cdv qual = true) (hroom : A.depth < recursionLimit)
    (hbind : BindsTo s (fnOf name qual params body scope dV kV doc pm an cdv ct) args binds) (hl : binds.reverse = l) (hloc : ∀ y ∈ binds, scope.names.lookup y.1 = some .local)
    (h : ∀ g L' h₁, (∀ b o, g.get? b = some o → s.heap.get? b = some o) → Keeps (news.map (·.1)) s.heap g → (∀ b, s.heap.objs.size ≤ b → g.get? b = none) → Fr g L' h₁ (mlist l) → News g L' h₁ news → Below A base (env :: outer) g → K.In g → Top p loose mean mg mb g →
      wpAny (model prog w) (A.deeper (envOf qual scope L' f cdv)) (execs body (envOf qual scope L' f cdv))
        (fun fl s' => R (.ok (.ret (match fl with | .ret v => v | _ => .none))) s') (fun _ _ => False)
        { s with heap := h₁, toks := s.toks + binds.length })
    (hco : scope.isCoroutine = false) (hgen : scope.isGenerator = false) (hk : scope.kind = .function)
    (hcell : ∀ x ∈ scope.names, x.2 ≠ .cell) : codeAny (model prog w) A (.call (.ref f) args) R s := by
  obtain ⟨FG, BG, st, _⟩ := groundX (R := R) B F N hA hf hke
  refine codeAny_call_def (fd := fnOf name qual params body scope dV kV doc pm an cdv ct) (body := body) (binds := binds) hroom ((X₀.keeps F.keep) _ _ ho) rfl (T.nolimit.keeps F.keep) (codeRec_of (X₀.keeps F.keep) hcd) rfl hbind hcell hloc (fun h₁ hns hk₁ => ?_) hco hgen hk
  refine wpAny_mono (h (hideAll s.heap (news.map (·.1))) s.heap.objs.size h₁ (fun b o e => of_hideAll _ e) (fun b o e n => hideAll_get _ e n) (fun b hb => Heap.get?_none_of_le (by rw [hideAll_size]; exact hb)) (Fr.named l ⟨hns, fun b o e => hk₁ b o (of_hideAll _ e), Nat.le_of_eq (hideAll_size _ _)⟩ hl rfl)
    (fun p hp => ⟨hk₁ _ _ (N p hp).1, Nat.ne_of_lt (Heap.lt_size (N p hp).1), hideAll_none _ (List.mem_map_of_mem hp)⟩) BG (X₀.keeps fun b o e => st b o e) (T.keeps fun b o e => st b o e)) (fun fl s' hl => hl) fun _ _ y => y.elim
end

section
variable {prog : Program} {w : World} {A : Around} {E : Value → Shared → Prop} {s : Shared} {env : Env} {h₀ : Heap} {Q : Flow → Shared → Prop} {target iter : PySem.Expr} {body : List Stmt} {pos : Pos}

inductive JEnd (h₀ : Heap) (L : Addr) (J : (Str → Option Value) → List (Addr × Obj) → Prop) (own : List (Addr × Obj)) (s s₂ : Shared) : Prop where
  | mk h' tk m' news' nx (h0 : s₂ = { s with heap := h', toks := tk }) (h1 : Fr h₀ L h' m') (h2 : News h₀ L h' news') (h3 : (∀ p ∈ nx, p ∈ news')) (h4 : (∀ p ∈ own, p ∈ news')) (h5 : (∀ p ∈ nx, ∀ q ∈ own, p.1 ≠ q.1)) (h6 : J m' nx) : JEnd h₀ L J own s s₂
def JPost (h₀ : Heap) (L : Addr) (J : (Str → Option Value) → List (Addr × Obj) → Prop) (own : List (Addr × Obj)) (s : Shared) (Q : Flow → Shared → Prop) (f : Flow) (s₂ : Shared) : Prop :=
  match f with
  | .ret v => Q (.ret v) s₂
  | .brk => Q .next s₂
  | _ => JEnd h₀ L J own s s₂

def JAt (prog : Program) (w : World) (A : Around) (env : Env) (target : PySem.Expr) (body : List Stmt) (Q : Flow → Shared → Prop) (E : Value → Shared → Prop) (it : Value) (s₂ : Shared) : Prop :=
  codeAny (model prog w) A (.forLoop target it body [] env) (fun r s' => match r with | .ok f => Q f s' | .error e => cameBackBy (model prog w) A env E e s') s₂

theorem for_J (h : wpAny (model prog w) A (eval iter env) (fun xv s₁ => wpAny (model prog w) A (pyIter xv) (fun it s₂ => JAt prog w A env target body Q E it s₂) E s₁) E s)
    (hs : ∀ x, foldedSetIterable iter env x = pure x := by intro _; rfl) : wpAny (model prog w) A (exec (.For target iter body [] pos) env) Q E s := wpAny_For h hs

theorem loop_J {I : Addr} {fp wr : List Addr} {n : Nat} {P : Nat → Value → Prop} {St : Nat → Heap → Prop} {m₀ : Str → Option Value} {news : List (Addr × Obj)} (J : Nat → (Str → Option Value) → List (Addr × Obj) → Prop) {L : Addr}
    (W : Walks prog w A I fp wr n P St) (hLf : L ∉ fp) (hwr : ∀ b ∈ wr, h₀.get? b = none) (hlive : ∀ i h, St i h → ∀ b ∈ fp, ∃ o, h.get? b = some o) (hfp : ∀ q ∈ news, q.1 ∉ fp) (hst : St 0 s.heap) {fixed : List (Addr × Obj)} (hfix : ∀ q ∈ fixed, q.1 ∈ fp ∧ q.1 ∉ wr ∧ h₀.get? q.1 = none ∧ s.heap.get? q.1 = some q.2) (F : Fr h₀ L s.heap m₀) (N : News h₀ L s.heap news) (hj : J 0 m₀ news)
    (hgo : ∀ i (s' : Shared) v (Q' : Unit → Shared → Prop), St i s'.heap → Q' () s' → wpAny (model prog w) A (letOwnedTupleGo target (.ref I) v) Q' (fun _ _ => False) s')
    (turn : ∀ i v m₁ nx h tk own, i < n → P i v → (∀ q ∈ fixed, q ∈ own) → (∀ p ∈ nx, ∀ q ∈ own, p.1 ≠ q.1) → J i m₁ nx → Fr h₀ L h m₁ → News h₀ L h (nx ++ own) →
      wpAny (model prog w) A (assign target env v) (fun _ s₃ => wpAny (model prog w) A (execs body env) (JPost h₀ L (J (i + 1)) own { s with heap := h, toks := tk } Q) (fun _ _ => False) s₃) (fun _ _ => False) { s with heap := h, toks := tk })
    (done : ∀ m₁ nx h tk, J n m₁ nx → Fr h₀ L h m₁ → News h₀ L h (fixed ++ nx) → Q .next { s with heap := h, toks := tk }) :
    JAt prog w A env target body Q E (.ref I) s := by
  have hLw : L ∉ wr := fun h => hLf (W.sub _ h)
  have old : ∀ b o, h₀.get? b = some o → b ∉ wr := fun b o e hb => by rw [hwr b hb] at e; cases e
  unfold JAt
  refine codeAny_forLoop_any
    (fun k s' => ∃ h' tk m' news' i, s' = { s with heap := h', toks := tk } ∧ St i h' ∧ Fr h₀ L h' m' ∧ News h₀ L h' news' ∧ (∀ p ∈ news', p.1 ∉ fp) ∧ (∀ q ∈ fixed, h'.get? q.1 = some q.2) ∧ J i m' news' ∧ i ≤ n ∧ k = n + 1 - i) ?_ (n + 1)
    ⟨s.heap, s.toks, m₀, news, 0, rfl, hst, F, N, hfp, fun q hq => (hfix q hq).2.2.2, hj, Nat.zero_le _, rfl⟩
  rintro k s' ⟨h', tk, m', news', i, rfl, hst', F', N', hnf, hfx, hJ, hi, rfl⟩
  have hnw' : ∀ p ∈ news', p.1 ∉ wr := fun p hp q => hnf p hp (W.sub _ q)
  have next : ∀ h₁ : Heap, (∀ b o, b ∉ wr → h'.get? b = some o → h₁.get? b = some o) → Fr h₀ L h₁ m' ∧ News h₀ L h₁ news' := fun h₁ hk₁ =>
    ⟨⟨F'.ns.at' fun o e => hk₁ _ o hLw e, fun b o e => hk₁ b o (old b o e) (F'.keep b o e), F'.above⟩, fun p hp => ⟨hk₁ _ _ (hnw' p hp) (N' p hp).1, (N' p hp).2⟩⟩
  by_cases hlt : i < n
  · refine W.item i _ _ _ hlt hst' fun v h₁ tk₁ hP hst₁ hk₁ => ?_
    obtain ⟨F₁, N₁⟩ := next h₁ hk₁
    have Nown : News h₀ L h₁ (ownOf h₀ fp h₁) := news_ownOf hLf
    have hoff : ∀ p ∈ news', ∀ q ∈ ownOf h₀ fp h₁, p.1 ≠ q.1 := fun p hp q hq e => hnf p hp (e ▸ ownOf_sub q hq)
    refine wpAny_noRaise (hgo (i + 1) _ v _ hst₁ ?_)
    refine wpAny_noRaise (wpAny_mono (turn i v m' news' h₁ tk₁ (ownOf h₀ fp h₁) hlt hP (fun q hq => mem_ownOf (hfix q hq).1 (hfix q hq).2.2.1 (hk₁ _ _ (hfix q hq).2.1 (hfx q hq))) hoff hJ F₁ (fun p hp => (List.mem_append.mp hp).elim (N₁ p) (Nown p))) (fun _ s₂ h₂ => ?_) fun _ _ e => e)
    refine wpAny_noRaise (wpAny_mono h₂ (fun f s₃ h₃ => ?_) fun _ _ e => e)
    have fin : JEnd h₀ L (J (i + 1)) (ownOf h₀ fp h₁) { s with heap := h₁, toks := tk₁ } s₃ → ∃ m, m < n + 1 - i ∧ ∃ h' tk m' news' j, s₃ = { s with heap := h', toks := tk } ∧ St j h' ∧ Fr h₀ L h' m' ∧ News h₀ L h' news' ∧ (∀ p ∈ news', p.1 ∉ fp) ∧ (∀ q ∈ fixed, h'.get? q.1 = some q.2) ∧ J j m' news' ∧ j ≤ n ∧ m = n + 1 - j := by
      rintro ⟨h₃', tk₃, m₂, all, nx, rfl, F₃, N₃, hn, ho, ha, hJ₃⟩
      refine ⟨n + 1 - (i + 1), by omega, h₃', tk₃, m₂, nx, i + 1, rfl, ?_, F₃, fun p hp => N₃ p (hn p hp), fun p hp hq => ?_, fun q hq => (N₃ q (ho q (mem_ownOf (hfix q hq).1 (hfix q hq).2.2.1 (hk₁ _ _ (hfix q hq).2.1 (hfx q hq))))).1, hJ₃, hlt, rfl⟩
      · refine W.frame _ _ _ hst₁ fun b hb o e => ?_
        cases hn' : h₀.get? b with
        | some o₀ =>
          have : o₀ = o := by have := F₁.keep b o₀ hn'; rw [e] at this; exact (Option.some.inj this).symm
          exact this ▸ F₃.keep b o₀ hn'
        | none => exact (N₃ _ (ho _ (mem_ownOf hb hn' e))).1
      · obtain ⟨o, e⟩ := hlive _ _ hst₁ _ hq
        cases hn' : h₀.get? p.1 with
        | some o₀ => rw [(N₃ p (hn p hp)).2.2] at hn'; cases hn'
        | none => exact ha p hp _ (mem_ownOf hq hn' e) rfl
    cases f with
    | ret v => exact h₃
    | brk => exact h₃
    | next => exact fin h₃
    | cont => exact fin h₃
  · have hin : i = n := by omega
    subst hin
    refine W.done _ _ _ hst' fun h₁ tk₁ hk₁ => wpAny_execs_nil ?_
    obtain ⟨F₁, N₁⟩ := next h₁ hk₁
    exact done m' news' h₁ tk₁ hJ F₁ fun p hp => (List.mem_append.mp hp).elim (fun hq => ⟨hk₁ _ _ (hfix p hq).2.1 (hfx p hq), fun e => hLf (e ▸ (hfix p hq).1), (hfix p hq).2.2.1⟩) (N₁ p)

theorem JEnd.intro {h₀ : Heap} {L : Addr} {J : (Str → Option Value) → List (Addr × Obj) → Prop} {own news' : List (Addr × Obj)} {s : Shared} {h' : Heap} {tk : Nat} {m' : Str → Option Value} (nx : List (Addr × Obj)) (F : Fr h₀ L h' m') (N : News h₀ L h' news')
    (hn : ∀ p ∈ nx, p ∈ news') (ho : ∀ p ∈ own, p ∈ news') (ha : ∀ p ∈ nx, ∀ q ∈ own, p.1 ≠ q.1) (hJ : J m' nx) : JEnd h₀ L J own s { s with heap := h', toks := tk } := ⟨h', tk, m', news', nx, rfl, F, N, hn, ho, ha, hJ⟩

theorem str_J {xt : Str} {tx : Tok} {m₀ : Str → Option Value} {news : List (Addr × Obj)} (J : Nat → (Str → Option Value) → List (Addr × Obj) → Prop) {L : Addr} (hh : A.handled = none) (F : Fr h₀ L s.heap m₀) (N : News h₀ L s.heap news) (hj : J 0 m₀ news)
    (turn : ∀ i c u m₁ nx h tk own, xt.cps[i]? = some c → (∀ p ∈ nx, ∀ q ∈ own, p.1 ≠ q.1) → J i m₁ nx → Fr h₀ L h m₁ → News h₀ L h (nx ++ own) →
      wpAny (model prog w) A (assign target env (.str ⟨#[c]⟩ u)) (fun _ s₃ => wpAny (model prog w) A (execs body env) (JPost h₀ L (J (i + 1)) own { s with heap := h, toks := tk } Q) (fun _ _ => False) s₃) (fun _ _ => False) { s with heap := h, toks := tk })
    (done : ∀ m₁ nx h tk, J xt.cps.size m₁ nx → Fr h₀ L h m₁ → News h₀ L h nx → Q .next { s with heap := h, toks := tk })
    (ht : ∀ v I, letOwnedTupleGo target (.ref I) v = pure () := by intro _ _; rfl) :
    wpAny (model prog w) A (pyIter (.str xt tx)) (fun it s₂ => JAt prog w A env target body Q E it s₂) E s := by
  have key : ∀ (o : Obj) (St : Nat → Heap → Prop), (∀ A' : Around, A'.handled = none → Walks prog w A' s.heap.objs.size [s.heap.objs.size] [s.heap.objs.size] xt.cps.size (SignAt xt) St) → St 0 (s.heap.push o) → (∀ i h, St i h → ∃ o, h.get? s.heap.objs.size = some o) →
      JAt prog w A env target body Q E (.ref s.heap.objs.size) { s with heap := s.heap.push o } := by
    intro o St hW hst hl
    have W := hW A hh
    refine loop_J J W ?_ ?_ ?_ ?_ hst (fixed := []) (fun _ h => nomatch h) (F.push _) (fun p hp => ⟨Heap.get?_push_of_some _ (N p hp).1, (N p hp).2⟩) hj (fun i s' v Q' _ hq => by rw [ht]; exact wpAny_pure hq) ?_ ?_
    · intro hm
      exact absurd F.ns.lt ((List.mem_singleton.mp hm) ▸ Nat.lt_irrefl _)
    · intro b' hb
      rw [List.mem_singleton.mp hb]
      exact next_is_new F
    · intro i h st b hb
      rw [List.mem_singleton.mp hb]
      exact hl i h st
    · intro p hp hI
      exact absurd (Heap.lt_size (N p hp).1) ((List.mem_singleton.mp hI) ▸ Nat.lt_irrefl _)
    · rintro i v m₁ nx h tk own hi ⟨c, u, hn, rfl⟩ _ hoff hJ F₁ N₁
      exact turn i c u m₁ nx h tk own hn hoff hJ F₁ N₁
    · intro m₁ nx h tk hJ F₁ N₁
      exact done m₁ nx h tk hJ F₁ N₁
  cases ha : xt.cps.all (· < 128)
  · exact wpAny_pyIter_wide ha (key _ _ (fun A' hA => Walks.strWide hA _ xt tx) ⟨_, Heap.get?_push_size _ rfl, rfl, rfl⟩ fun i h st => ⟨_, st.choose_spec.1⟩)
  · exact wpAny_pyIter_ascii ha (key _ _ (fun A' hA => Walks.strAscii hA _ xt tx) ⟨_, Heap.get?_push_size _ rfl, rfl, rfl⟩ fun i h st => ⟨_, st.choose_spec.1⟩)

theorem range_J {r : Addr} {a₀ b₀ : Int} {t₀ u₀ v₀ : Tok} {m₀ : Str → Option Value} {news : List (Addr × Obj)} (J : Nat → (Str → Option Value) → List (Addr × Obj) → Prop) {L : Addr} (hh : A.handled = none) (hr : IsRange s.heap r a₀ b₀ 1 t₀ u₀ v₀)
    (ha : -(2 ^ 20) ≤ a₀ ∧ a₀ ≤ 2 ^ 20) (hb : -(2 ^ 20) ≤ b₀ ∧ b₀ ≤ 2 ^ 20) (F : Fr h₀ L s.heap m₀) (N : News h₀ L s.heap news) (hj : J 0 m₀ news)
    (turn : ∀ (i : Nat) u m₁ nx h tk own, i < (b₀ - a₀).toNat → (∀ p ∈ nx, ∀ q ∈ own, p.1 ≠ q.1) → J i m₁ nx → Fr h₀ L h m₁ → News h₀ L h (nx ++ own) →
      wpAny (model prog w) A (assign target env (.int (a₀ + (i : Int)) u)) (fun _ s₃ => wpAny (model prog w) A (execs body env) (JPost h₀ L (J (i + 1)) own { s with heap := h, toks := tk } Q) (fun _ _ => False) s₃) (fun _ _ => False) { s with heap := h, toks := tk })
    (done : ∀ m₁ nx h tk, J (b₀ - a₀).toNat m₁ nx → Fr h₀ L h m₁ → News h₀ L h nx → Q .next { s with heap := h, toks := tk })
    (ht : ∀ v I, letOwnedTupleGo target (.ref I) v = pure () := by intro _ _; rfl) :
    wpAny (model prog w) A (pyIter (.ref r)) (fun it s₂ => JAt prog w A env target body Q E it s₂) E s := by
  refine wpAny_pyIter_range hr (small_one (by omega) (by omega) (by omega) (by omega)) ?_
  have W : Walks prog w A s.heap.objs.size [s.heap.objs.size] [s.heap.objs.size] (b₀ - a₀).toNat (fun i v => ∃ t, v = .int (a₀ + i * 1) t)
      (fun i h => IsRangeIter h s.heap.objs.size (a₀ + (i : Nat) * 1) (((b₀ - a₀).toNat : Int) - (i : Nat)) 1) := Walks.range hh _ a₀ 1 _
  refine loop_J J W ?_ ?_ (fun i h st b hb => by rw [List.mem_singleton.mp hb]; exact ⟨_, st⟩) ?_ (by show IsRangeIter _ _ _ _ _; rw [rangeSize_nat]; simpa using Heap.get?_push_size _ rfl) (fixed := []) (fun _ h => nomatch h) (F.push _) (fun p hp => ⟨Heap.get?_push_of_some _ (N p hp).1, (N p hp).2⟩) hj (fun i s' v Q' _ hq => by rw [ht]; exact wpAny_pure hq) ?_ ?_
  · intro hm
    exact absurd F.ns.lt ((List.mem_singleton.mp hm) ▸ Nat.lt_irrefl _)
  · intro b hb
    rw [List.mem_singleton.mp hb]
    exact next_is_new F
  · intro p hp hI
    exact absurd (Heap.lt_size (N p hp).1) ((List.mem_singleton.mp hI) ▸ Nat.lt_irrefl _)
  · rintro i v m₁ nx h tk own hi ⟨u, rfl⟩ _ hoff hJ F₁ N₁
    rw [Int.mul_one]
    exact turn i u m₁ nx h tk own hi hoff hJ F₁ N₁
  · intro m₁ nx h tk hJ F₁ N₁
    exact done m₁ nx h tk hJ F₁ N₁

theorem list_J {l : Addr} {items : Array Value} {k : Nat} {m₀ : Str → Option Value} {news : List (Addr × Obj)} (J : Nat → (Str → Option Value) → List (Addr × Obj) → Prop) {L : Addr} (hh : A.handled = none)
    (F : Fr h₀ L s.heap m₀) (N : News h₀ L s.heap ((l, W.listOf items k) :: news)) (hlo : ∀ q ∈ news, q.1 ≠ l) (hj : J 0 m₀ news)
    (turn : ∀ i v m₁ nx h tk own, items[i]? = some v → (l, W.listOf items k) ∈ own → (∀ p ∈ nx, ∀ q ∈ own, p.1 ≠ q.1) → J i m₁ nx → Fr h₀ L h m₁ → News h₀ L h (nx ++ own) →
      wpAny (model prog w) A (assign target env v) (fun _ s₃ => wpAny (model prog w) A (execs body env) (JPost h₀ L (J (i + 1)) own { s with heap := h, toks := tk } Q) (fun _ _ => False) s₃) (fun _ _ => False) { s with heap := h, toks := tk })
    (done : ∀ m₁ nx h tk, J items.size m₁ nx → Fr h₀ L h m₁ → News h₀ L h ((l, W.listOf items k) :: nx) → Q .next { s with heap := h, toks := tk }) :
    wpAny (model prog w) A (pyIter (.ref l)) (fun it s₂ => JAt prog w A env target body Q E it s₂) E s := by
  have hl := N _ (.head _)
  have hls : s.heap.IsList l items := ⟨_, hl.1, rfl, k, rfl⟩
  have hlt : l < s.heap.objs.size := Heap.lt_size hl.1
  refine wpAny_pyIter_list hls ?_
  have WW := Walks.list (prog := prog) (w := w) hh s.heap.objs.size l (Nat.ne_of_lt hlt) items
  refine loop_J J WW ?_ ?_ (fun i h st b hb => ?_) ?_ ⟨⟨_, Heap.get?_push_size _ rfl, rfl, rfl⟩, hls.at fun o e => Heap.get?_push_of_some _ e⟩ (fixed := [(l, W.listOf items k)]) (fun q hq => ?_) (F.push _) (fun p hp => ⟨Heap.get?_push_of_some _ (N p (.tail _ hp)).1, (N p (.tail _ hp)).2⟩) hj (fun i s' v Q' st hq => letGo_listiter st.1 hq) ?_ ?_
  · intro hm
    rcases List.mem_cons.mp hm with e | hm
    · exact absurd F.ns.lt (e ▸ Nat.lt_irrefl _)
    · exact hl.2.1 (List.mem_singleton.mp hm).symm
  · intro b hb
    rw [List.mem_singleton.mp hb]
    exact next_is_new F
  · rcases List.mem_cons.mp hb with e | hb
    · rw [e]; exact ⟨_, st.1.choose_spec.1⟩
    · rw [List.mem_singleton.mp hb]; exact ⟨_, st.2.choose_spec.1⟩
  · intro p hp hI
    rcases List.mem_cons.mp hI with e | hI
    · exact absurd (Heap.lt_size (N p (.tail _ hp)).1) (e ▸ Nat.lt_irrefl _)
    · exact hlo p hp (List.mem_singleton.mp hI)
  · rw [List.mem_singleton.mp hq]
    exact ⟨.tail _ (.head _), fun e => Nat.ne_of_lt hlt (List.mem_singleton.mp e), hl.2.2, Heap.get?_push_of_some _ hl.1⟩
  · rintro i v m₁ nx h tk own hi hP hfx hoff hJ F₁ N₁
    exact turn i v m₁ nx h tk own hP (hfx _ (.head _)) hoff hJ F₁ N₁
  · intro m₁ nx h tk hJ F₁ N₁
    exact done m₁ nx h tk hJ F₁ N₁

end
def AllEq (m m' : Str → Option Value) : List Str → Prop
  | [] => True
  | n :: r => m n = m' n ∧ AllEq m m' r
def Off (y : Str) : List Str → Prop
  | [] => True
  | n :: r => y ≠ n ∧ Off y r
theorem mext (ns : List Str) {m m' : Str → Option Value} (h1 : AllEq m m' ns) (h2 : ∀ y, Off y ns → m y = m' y) : m = m' := by
  funext y
  have key : ∀ l : List Str, AllEq m m' l → m y = m' y ∨ Off y l := by
    intro l
    induction l with
    | nil => exact fun _ => .inr trivial
    | cons n r ih =>
      rintro ⟨a, b⟩
      by_cases q : y = n
      · subst q; exact .inl a
      · exact (ih b).imp id fun z => ⟨q, z⟩
  exact (key ns h1).elim id (h2 y)
theorem Fr.eq {g h : Heap} {L : Addr} {m m' : Str → Option Value} (F : Fr g L h m) (e : m = m') : Fr g L h m' := e ▸ F
theorem sub_nil {l : List (Addr × Obj)} : ∀ p ∈ ([] : List (Addr × Obj)), p ∈ l := fun _ h => nomatch h
theorem sub_cons {l r : List (Addr × Obj)} {q : Addr × Obj} (a : q ∈ l) (b : ∀ p ∈ r, p ∈ l) : ∀ p ∈ q :: r, p ∈ l := List.forall_mem_cons.mpr ⟨a, b⟩
theorem sub_self {l : List (Addr × Obj)} : ∀ p ∈ l, p ∈ l := fun _ h => h
theorem sub_tail {l r : List (Addr × Obj)} {q : Addr × Obj} (b : ∀ p ∈ r, p ∈ l) : ∀ p ∈ r, p ∈ q :: l := fun p h => .tail _ (b p h)
theorem allLt_mem {d : Addr} (l : List (Addr × Obj)) (h : AllLt d l) (p : Addr × Obj) (hp : p ∈ l) : p.1 < d := by
  induction l with
  | nil => cases hp
  | cons q r ih =>
    rcases List.mem_cons.mp hp with e | e
    · rw [e]; exact h.1
    · exact ih h.2 e
theorem ne_of_allLt {d : Addr} {l : List (Addr × Obj)} (h : AllLt d l) : ∀ p ∈ l, p.1 ≠ d := fun p hp => Nat.ne_of_lt (allLt_mem l h p hp)
section
variable {prog : Program} {w : World} {A : Around} {E : Value → Shared → Prop} {s : Shared} {h₀ : Heap} {L : Addr} {m : Str → Option Value} {news : List (Addr × Obj)}
theorem tuple_L {l : Addr} {items : Array Value} {k : Nat} {Q : Value → Shared → Prop} (F : Fr h₀ L s.heap m) (N : News h₀ L s.heap news) (hm : (l, W.listOf items k) ∈ news) (hz : items.size ≤ 1000)
    (h : ∀ D h', Fr h₀ L h' m → News h₀ L h' ((D, { cls := .type "tuple", data := .seq items }) :: news) → (∀ p ∈ news, p.1 < D) → Q (.ref D) { s with heap := h' }) :
    wpAny (model prog w) A (call (.type "tuple") [.ref l]) Q E s := by
  refine call_tuple_list ⟨_, (N _ hm).1, rfl, k, rfl⟩ (fun h' hk => ?_) (by rw [sizeLine_eq]; omega)
  have F' : Fr h₀ L h' m := ⟨F.ns.keeps hk, fun b o e => hk b o (F.keep b o e), F.above⟩
  have N' : News h₀ L h' news := fun p hp => ⟨hk _ _ (N p hp).1, (N p hp).2⟩
  exact h _ _ (F'.push _) (N'.push F' _) fun p hp => Heap.lt_size (N' p hp).1
end
theorem sgn {c k : Nat} {x : Str} (hx : x = ⟨#[k]⟩) : ((⟨#[c]⟩ : Str) == x) = decide (c = k) := by
  subst hx
  by_cases h : c = k
  · subst h; simp
  · rw [decide_eq_false h, beq_eq_false_iff_ne]
    intro e
    apply h
    have := congrArg Str.cps e
    simpa using this
theorem leave {h₀ h₁ g h' : Heap} {L L' : Addr} {m m' : Str → Option Value} {known out : List (Addr × Obj)} (F₁ : Fr h₀ L h₁ m) (N₁ : News h₀ L h₁ known) (hgk : Keeps (known.map (·.1)) h₁ g) (F' : Fr g L' h' m') (N' : News g L' h' out) :
    Fr h₀ L h' m ∧ News h₀ L h' out ∧ Keeps (known.map (·.1)) h₁ h' := by
  have hk : Keeps (known.map (·.1)) h₁ h' := fun b o e n => F'.keep b o (hgk b o e n)
  have hf := News.fp N₁
  obtain ⟨oL, _, _, hL, _⟩ := F₁.ns
  have gL := hgk L oL hL fun q => (hf L q).1 rfl
  refine ⟨Fr.off F₁ hk hf, fun p hp => ⟨(N' p hp).1, fun q => ?_, ?_⟩, hk⟩
  · have := (N' p hp).2.2; rw [q, gL] at this; cases this
  · cases q : h₀.get? p.1 with
    | none => rfl
    | some o =>
      have e := hgk _ _ (F₁.keep _ _ q) fun z => by rw [(hf _ z).2] at q; cases q
      rw [(N' p hp).2.2] at e; cases e
theorem News.skip3 {h₀ h : Heap} {L : Addr} {a b c : Addr × Obj} {r : List (Addr × Obj)} (N : News h₀ L h (a :: b :: c :: r)) : News h₀ L h (a :: b :: r) :=
  News.sub N (sub_cons (.head _) (sub_cons (.tail _ (.head _)) (sub_tail (sub_tail (sub_tail sub_self)))))
theorem leave_ro {h₀ h₁ g h' : Heap} {L L' : Addr} {m m' : Str → Option Value} {known news out : List (Addr × Obj)} (F₁ : Fr h₀ L h₁ m) (N₁ : News h₀ L h₁ news) (hs : ∀ p ∈ known, p ∈ news) (hgk : Keeps (known.map (·.1)) h₁ g) (F' : Fr g L' h' m') (N' : News g L' h' out) (ho : ∀ p ∈ known, p ∈ out) :
    Fr h₀ L h' m ∧ News h₀ L h' news := by
  obtain ⟨F'', N'', hk⟩ := leave F₁ (News.sub N₁ hs) hgk F' N'
  refine ⟨F'', fun p hp => ?_⟩
  by_cases q : p.1 ∈ known.map (·.1)
  · obtain ⟨r, hr, e⟩ := List.mem_map.mp q
    have : r.2 = p.2 := by
      have a := (N₁ r (hs r hr)).1
      rw [e, (N₁ p hp).1] at a
      exact (Option.some.inj a).symm
    have e2 : r = p := Prod.ext e this
    exact e2 ▸ N'' r (ho r hr)
  · exact ⟨hk _ _ (N₁ p hp).1 q, (N₁ p hp).2⟩
section
variable {prog : Program} {w : World} {A : Around} {E : Value → Shared → Prop} {s : Shared} {h₀ : Heap} {L : Addr} {news : List (Addr × Obj)}
theorem len_TT {l : Addr} {items : Array Value} {k : Nat} {Q : Value → Shared → Prop} (N : News h₀ L s.heap news) (hm : (l, ({ cls := .type "tuple", data := .seq items k } : Obj)) ∈ news) (hz : items.size ≤ 1000)
    (h : ∀ t tk, Q (.int (items.size : Int) t) { s with toks := tk }) : wpAny (model prog w) A (call (.builtin "len") [.ref l]) Q E s :=
  len_tuple ⟨_, (N _ hm).1, rfl, k, rfl⟩ (by omega) (h _ _)
theorem item_TI {value slice : PySem.Expr} {l : Addr} {vs : List Value} {ns : List Int} {n : Nat} {k : Int} {u : Tok} {Q : Value → Shared → Prop} (N : News h₀ L s.heap news) (hm : (l, ({ cls := .type "tuple", data := .seq vs.toArray n } : Obj)) ∈ news) (hi : IntsAre vs ns)
    (h0 : 0 ≤ k) (h1 : k < ns.length) (hz : ns.length ≤ 1000) (h : ∀ t, Q (.int (ns.getD k.toNat 0) t) s)
    (hs : subscripted slice false (.ref l) (.int k u) = operate [.ref l, .int k u] (getItem (.ref l) (.int k u)) := by with_unfolding_all rfl) (hg : ∀ r, letTemporaryGo value (.ref l) r = pure () := by intro _; with_unfolding_all rfl) :
    wpAny (model prog w) A (subscriptTail value slice (.ref l) (.int k u)) Q E s := by
  have hl := hi.length
  have e : ns[k.toNat]? = some (ns.getD k.toNat 0) := by
    rw [List.getD_eq_getElem?_getD, List.getElem?_eq_getElem (by omega)]; rfl
  obtain ⟨t, hx⟩ := hi.get _ _ e
  exact item_tupleL (j := k.toNat) ⟨_, (N _ hm).1, rfl, n, rfl⟩ (by omega) (by omega) (by unfold seqIndex?; simp only [if_neg (Int.not_lt.mpr h0)]; rw [if_pos]; simp; omega) hx (h t) hs hg
end
-- addresses off a list, piece by piece
theorem ooC {q : Addr × Obj} {T : List (Addr × Obj)} {as : List Addr} (h : ∀ r ∈ as, q.1 ≠ r) (k : OwnOff T as) : OwnOff (q :: T) as := List.forall_mem_cons.mpr ⟨h, k⟩
theorem ooA {T T' : List (Addr × Obj)} {as : List Addr} (h : OwnOff T as) (k : OwnOff T' as) : OwnOff (T ++ T') as := fun q hq => (List.mem_append.mp hq).elim (h q) (k q)
theorem oo0 {T : List (Addr × Obj)} : OwnOff T [] := fun _ _ _ h => nomatch h
theorem ooX {r : Addr} {T : List (Addr × Obj)} {as : List Addr} (h : ∀ q ∈ T, q.1 ≠ r) (k : OwnOff T as) : OwnOff T (r :: as) := fun q hq => List.forall_mem_cons.mpr ⟨h q hq, k q hq⟩
theorem ooN {r : Addr} {T : List (Addr × Obj)} {as : List Addr} (h : ∀ q ∈ T, @Ne Nat r q.1) (k : OwnOff T as) : OwnOff T (r :: as) := fun q hq => List.forall_mem_cons.mpr ⟨(h q hq).symm, k q hq⟩
theorem fa3 {P : Addr → Prop} {a b c : Addr} (h1 : P a) (h2 : P b) (h3 : P c) : ∀ r ∈ [a, b, c], P r := List.forall_mem_cons.mpr ⟨h1, List.forall_mem_cons.mpr ⟨h2, List.forall_mem_cons.mpr ⟨h3, List.forall_mem_nil _⟩⟩⟩
theorem fa4 {P : Addr → Prop} {a b c d : Addr} (h1 : P a) (h2 : P b) (h3 : P c) (h4 : P d) : ∀ r ∈ [a, b, c, d], P r := List.forall_mem_cons.mpr ⟨h1, fa3 h2 h3 h4⟩
theorem fa5 {P : Addr → Prop} {a b c d e : Addr} (h1 : P a) (h2 : P b) (h3 : P c) (h4 : P d) (h5 : P e) : ∀ r ∈ [a, b, c, d, e], P r := List.forall_mem_cons.mpr ⟨h1, fa4 h2 h3 h4 h5⟩
theorem geN {as : List Addr} {d : Addr} (h : ∀ r ∈ as, @LT.lt Nat _ r d) {a : Addr} (hd : @LE.le Nat _ d a) : ∀ r ∈ as, a ≠ r := fun r hr => Nat.ne_of_gt (Nat.lt_of_lt_of_le (h r hr) hd)
-- an if at hand (no line of the library's at it)
section
variable {prog : Program} {w : World} {A : Around} {E : Value → Shared → Prop} {s : Shared}
def IfAt (prog : Program) (w : World) (A : Around) (test : PySem.Expr) (body orelse : List Stmt) (pos : Pos) (env : Env) (Q : Flow → Shared → Prop) (E : Value → Shared → Prop) (s : Shared) : Prop := wpAny (model prog w) A (exec (.If test body orelse pos) env) Q E s
theorem if_stop {test : PySem.Expr} {body orelse : List Stmt} {pos : Pos} {env : Env} {Q : Flow → Shared → Prop} (h : IfAt prog w A test body orelse pos env Q E s) : wpAny (model prog w) A (exec (.If test body orelse pos) env) Q E s := h
theorem IfAt.go {test : PySem.Expr} {body orelse : List Stmt} {pos : Pos} {env : Env} {Q : Flow → Shared → Prop} (h : wpAny (model prog w) A (isTrue test env (eval test env)) (fun b s₁ => if b then wpAny (model prog w) A (execs body env) Q E s₁ else wpAny (model prog w) A (execs orelse env) Q E s₁) E s) : IfAt prog w A test body orelse pos env Q E s := wpAny_If h
theorem IfAt.cut {test : PySem.Expr} {body orelse : List Stmt} {pos : Pos} {env : Env} {Q P : Flow → Shared → Prop} (h : IfAt prog w A test body orelse pos env P E s) (k : ∀ f s', P f s' → Q f s') : IfAt prog w A test body orelse pos env Q E s := wpAny_mono h k fun _ _ e => e
theorem IfAt.test {test : PySem.Expr} {body orelse : List Stmt} {pos : Pos} {env : Env} {Q : Flow → Shared → Prop} (P : Shared → Bool → Shared → Prop) (h : wpAny (model prog w) A (isTrue test env (eval test env)) (P s) E s) (k : ∀ b s₁, P s b s₁ → if b then wpAny (model prog w) A (execs body env) Q E s₁ else wpAny (model prog w) A (execs orelse env) Q E s₁) : IfAt prog w A test body orelse pos env Q E s := wpAny_If (wpAny_mono h k fun _ _ e => e)
theorem IfAt.cutS {test : PySem.Expr} {body orelse : List Stmt} {pos : Pos} {env : Env} {Q : Flow → Shared → Prop} (P : Shared → Flow → Shared → Prop) (h : IfAt prog w A test body orelse pos env (P s) E s) (k : ∀ f s', P s f s' → Q f s') : IfAt prog w A test body orelse pos env Q E s := wpAny_mono h k fun _ _ e => e
-- a for at hand
def ForAt (prog : Program) (w : World) (A : Around) (target iter : PySem.Expr) (body : List Stmt) (pos : Pos) (env : Env) (Q : Flow → Shared → Prop) (E : Value → Shared → Prop) (s : Shared) : Prop := wpAny (model prog w) A (exec (.For target iter body [] pos) env) Q E s
theorem for_stop {target iter : PySem.Expr} {body : List Stmt} {pos : Pos} {env : Env} {Q : Flow → Shared → Prop} (h : ForAt prog w A target iter body pos env Q E s) : wpAny (model prog w) A (exec (.For target iter body [] pos) env) Q E s := h
theorem ForAt.cutS {target iter : PySem.Expr} {body : List Stmt} {pos : Pos} {env : Env} {Q : Flow → Shared → Prop} (P : Shared → Flow → Shared → Prop) (h : ForAt prog w A target iter body pos env (P s) E s) (k : ∀ f s', P s f s' → Q f s') : ForAt prog w A target iter body pos env Q E s := wpAny_mono h k fun _ _ e => e
end
end Mine

theorem Mine.fill3 : (Mine.hdm.heap_1, PySem.Challenge.rw_pg0318_02) = (Mine.hdm.heap_1, PySem.Challenge.rw_pg0318_02) := by k_fill; rfl

local macro_rules | `(tactic| walk_at "forJ") => `(tactic| (k_here; (with_unfolding_all refine' Mine.for_J ?_ ?hs); (case hs => with_unfolding_all exact fun _ => rfl)))
local macro_rules | `(tactic| walk_at "exec For Name Attribute cons nil") => `(tactic| walk_at "forJ")
local macro_rules | `(tactic| walk_at "exec For Name Name cons nil") => `(tactic| walk_at "forJ")
local macro_rules | `(tactic| walk_at "exec For Name Call cons nil") => `(tactic| walk_at "forJ")
local macro_rules | `(tactic| walk_at "а") => `(tactic| (simp only [List.size_toArray]; omega))
local macro_rules | `(tactic| walk_at "call type:tuple") => do
  let g := (some (← `(term| wpAny _ _ (call (Value.type _) [Value.ref _]) _ _ _)))
  Mine.ln `Mine.tuple_L 4 0 true "AaBaCmDа" g 0 0 "Iabcde Le W"
local macro_rules | `(tactic| walk_at "JPost") => `(tactic| dsimp only [Mine.JPost])
local macro_rules | `(tactic| walk_at "б") => `(tactic| first | exact BindsTo.of_eq rfl | exact binds_K (by k_in) rfl (by k_is) rfl rfl rfl)
local macro_rules | `(tactic| walk_at "в") => `(tactic| with_unfolding_all exact rfl)
local macro_rules | `(tactic| walk_at "г") => `(tactic| exact locs rfl)
local macro_rules | `(tactic| ktr_enter) => Mine.ln2 `Mine.enter_def 1 14 4 true "FfGfHsAaBaCaDaEaIiJiKrLбMвRdNгOfPfQf"
local macro_rules | `(tactic| walk_at "д") => `(tactic| (first | omega | (simp only [List.size_toArray]; omega)))
local macro_rules | `(tactic| walk_at "е") => `(tactic| (try simp only [List.size_toArray]))
local macro_rules | `(tactic| walk_at "call builtin:len") => do
  let g := (some (← `(term| wpAny _ _ (call (Value.builtin "len") [Value.ref _]) _ _ _)))
  Mine.ln `Mine.len_TT 3 0 true "AaBmCд" g 0 0 "Iab Tе"
local macro_rules | `(tactic| walk_at "subscriptTail Name Name ref int") => Mine.ln `Mine.item_TI 6 2 true "AaBmCADoEoFoGwHW" none 0 0 "Ia"
local macro_rules | `(tactic| k_sub) => `(tactic| first | ((repeat (first | exact Mine.sub_self | refine Mine.sub_tail ?_)); done) | ((repeat (first | exact Mine.sub_nil | (refine Mine.sub_cons (by k_mem) ?_) | ((repeat (first | exact Mine.sub_self | refine Mine.sub_tail ?_)); done))); done))
local macro_rules | `(tactic| k_mem) => `(tactic| ((fail_if_success (refine' List.Mem.tail _ ?_)); assumption))
local macro_rules | `(tactic| walk_at "call builtin:list.append") => do
  let g := (some (← `(term| wpAny _ _ (call (Value.builtin _) [Value.ref _, _]) _ _ _)))
  Mine.ln `append_K 3 1 true "AaBaCUDz" g 0 0 "Iabc W"
local macro_rules | `(tactic| walk_at "exec For Tuple Call cons nil") => `(tactic| walk_at "forJ")
local macro_rules | `(tactic| ktr_room) => `(tactic| first | exact Mine.room2 (by assumption) rfl | exact Mine.room1 (by assumption) rfl)
local macro_rules | `(tactic| k_in) => `(tactic| first | assumption | exact Frag.In.keeps (by k_asm) (Fr.keep (by k_asm)))

theorem Mine.tt_p_ws : True := by w_top off; exact trivial
namespace Mine
-- WHITESPACE: what __init__ reckons
def wsGrow (count : List Int) (b : Nat) : List Int := if count.length ≤ b then count ++ List.replicate (b - count.length + 1) 0 else count
def wsBump (count : List Int) (b : Nat) : List Int := (wsGrow count b).set b ((wsGrow count b).getD b 0 + 1)
def wsGo : List Nat → Nat → Nat → Nat → List Int → Nat × Nat × Nat × List Int
  | [], n, b, nt, count => (n, b, nt, count)
  | c :: r, n, b, nt, count => if c = 32 then wsGo r (n + 1) (b + 1) nt count else if c = 9 then wsGo r (n + 1) 0 (nt + 1) (wsBump count b) else (n, b, nt, count)
abbrev wsOf (ws : Str) := wsGo ws.cps.toList 0 0 0 []
section
variable {ws : Str} {i c n b nt : Nat} {cns : List Int} {T : Nat × Nat × Nat × List Int}
theorem ws_drop (hc : ws.cps[i]? = some c) : ws.cps.toList.drop i = c :: ws.cps.toList.drop (i + 1) := by
  have h : ws.cps.toList[i]? = some c := by simpa using hc
  obtain ⟨hl, he⟩ := List.getElem?_eq_some_iff.mp h
  rw [List.drop_eq_getElem_cons hl, he]
theorem ws_blank (hc : ws.cps[i]? = some c) (e : (⟨#[c]⟩ == Str.ofString " ") = true) (h : T = wsGo (ws.cps.toList.drop i) n b nt cns) : T = wsGo (ws.cps.toList.drop (i + 1)) (n + 1) (b + 1) nt cns := by
  rw [sgn (k := 32) (by decide +kernel)] at e
  rw [h, ws_drop hc, wsGo, if_pos (of_decide_eq_true e)]
theorem ws_tab (hc : ws.cps[i]? = some c) (e : (⟨#[c]⟩ == Str.ofString " ") = false) (e' : (⟨#[c]⟩ == Str.ofString "\t") = true) (h : T = wsGo (ws.cps.toList.drop i) n b nt cns) : T = wsGo (ws.cps.toList.drop (i + 1)) (n + 1) 0 (nt + 1) (wsBump cns b) := by
  rw [sgn (k := 32) (by decide +kernel)] at e
  rw [sgn (k := 9) (by decide +kernel)] at e'
  rw [h, ws_drop hc, wsGo, if_neg (of_decide_eq_false e), if_pos (of_decide_eq_true e')]
theorem ws_stop (hc : ws.cps[i]? = some c) (e : (⟨#[c]⟩ == Str.ofString " ") = false) (e' : (⟨#[c]⟩ == Str.ofString "\t") = false) (h : T = wsGo (ws.cps.toList.drop i) n b nt cns) : T = (n, b, nt, cns) := by
  rw [sgn (k := 32) (by decide +kernel)] at e
  rw [sgn (k := 9) (by decide +kernel)] at e'
  rw [h, ws_drop hc, wsGo, if_neg (of_decide_eq_false e), if_neg (of_decide_eq_false e')]
theorem ws_end (h : T = wsGo (ws.cps.toList.drop ws.cps.size) n b nt cns) : T = (n, b, nt, cns) := by
  rw [h, ← Array.length_toList, List.drop_length, wsGo]
theorem ws_grown (h : (cns.length : Int) ≤ b) : wsGrow cns b = cns ++ (List.replicate ((b : Int) - cns.length + 1).toNat [(0 : Int)]).flatten := by
  have : ((b : Int) - cns.length + 1).toNat = b - cns.length + 1 := by omega
  rw [wsGrow, if_pos (by omega), this, List.flatten_replicate_singleton]
theorem ws_same (h : ¬ (cns.length : Int) ≤ b) : wsGrow cns b = cns := by rw [wsGrow, if_neg (by omega)]
theorem wsGrow_length : (wsGrow cns b).length ≤ max cns.length (b + 1) ∧ b < (wsGrow cns b).length := by
  unfold wsGrow
  split
  · rw [List.length_append, List.length_replicate]; omega
  · omega
theorem wsBump_length : (wsBump cns b).length ≤ max cns.length (b + 1) := by
  rw [wsBump, List.length_set]; exact wsGrow_length.1
end
abbrev wsMap (vch : Option Value) (n b nt : Nat) (tn tb tnt tx : Tok) (la x : Addr) (ws : Str) : Str → Option Value :=
  mput "ch" vch (mput "nt" (some (.int (nt : Int) tnt)) (mput "n" (some (.int (n : Int) tn)) (mput "b" (some (.int (b : Int) tb)) (mput "count" (some (.ref la)) (mput "S" (some (.str " " 364)) (mput "T" (some (.str "\t" 365)) (mput "self" (some (.ref x)) (mput "ws" (some (.str ws tx)) mnil))))))))
inductive WsJ (P : Params) (ws : Str) (x d : Addr) (tx : Tok) (i : Nat) (m₁ : Str → Option Value) (nx : List (Addr × Obj)) : Prop where
  | mk0 (tkr : Tok) (vch : Option Value) (n b nt : Nat) (cvs : List Value) (cns : List Int) (tn tb tnt : Tok) (la : Addr) (k : Nat)
    (h0 : wsOf ws = wsGo (ws.cps.toList.drop i) n b nt cns) (h1 : IntsAre cvs cns) (h2 : n ≤ i) (h3 : b ≤ i) (h4 : nt ≤ i) (h5 : cns.length ≤ i)
    (h6 : m₁ = wsMap vch n b nt tn tb tnt tx la x ws) (h7 : @LT.lt Nat _ x la ∧ @LT.lt Nat _ d la) (h8 : nx = [(la, W.listOf cvs.toArray k), (x, instObj 142 d), (d, dictOf [⟨PyData.keyHash P "raw", .str "raw" tkr, .str ws tx⟩] 1)]) : WsJ P ws x d tx i m₁ nx
theorem WsJ.mk {P : Params} {ws : Str} {x d la : Addr} {tx tkr tn tb tnt : Tok} {vch : Option Value} {i n b nt k : Nat} {cvs : List Value} {cns : List Int} {m₀ : Str → Option Value}
    (hgo : wsOf ws = wsGo (ws.cps.toList.drop i) n b nt cns) (hi : IntsAre cvs cns) (hb : n ≤ i ∧ b ≤ i ∧ nt ≤ i ∧ cns.length ≤ i) (h1 : @LT.lt Nat _ x la ∧ @LT.lt Nat _ d la)
    (hm : m₀ = wsMap vch n b nt tn tb tnt tx la x ws) : WsJ P ws x d tx i m₀ [(la, W.listOf cvs.toArray k), (x, instObj 142 d), (d, dictOf [⟨PyData.keyHash P "raw", .str "raw" tkr, .str ws tx⟩] 1)] :=
  ⟨tkr, vch, n, b, nt, cvs, cns, tn, tb, tnt, la, k, hgo, hi, hb.1, hb.2.1, hb.2.2.1, hb.2.2.2, hm, h1, rfl⟩
theorem own3 {own : List (Addr × Obj)} {a b c : Addr} {o₁ o₂ o₃ : Obj} (h1 : ∀ q ∈ own, q.1 ≠ a) (h2 : ∀ q ∈ own, q.1 ≠ b) (h3 : ∀ q ∈ own, q.1 ≠ c) : ∀ p ∈ [(a, o₁), (b, o₂), (c, o₃)], ∀ q ∈ own, p.1 ≠ q.1 :=
  List.forall_mem_cons.mpr ⟨fun q hq => (h1 q hq).symm, List.forall_mem_cons.mpr ⟨fun q hq => (h2 q hq).symm, List.forall_mem_cons.mpr ⟨fun q hq => (h3 q hq).symm, List.forall_mem_nil _⟩⟩⟩
inductive WsCut (P : Params) (g : Heap) (L : Addr) (ws : Str) (x d : Addr) (tx : Tok) (s : Shared) (f : Flow) (s' : Shared) : Prop where
  | mk h' tk' (tkr : Tok) (vch : Option Value) (n b nt : Nat) (cvs : List Value) (cns : List Int) (tn tb tnt : Tok) (la : Addr) (k : Nat) (e0 : f = .next) (e1 : s' = {s with heap := h', toks := tk'}) (h0 : wsOf ws = (n, b, nt, cns)) (h1 : IntsAre cvs cns) (h2 : n ≤ 100) (h3 : b ≤ 100) (h4 : nt ≤ 100) (h5 : cns.length ≤ 100)
    (h7 : @LT.lt Nat _ x la ∧ @LT.lt Nat _ d la) (F : Fr g L h' (wsMap vch n b nt tn tb tnt tx la x ws)) (N : News g L h' [(la, W.listOf cvs.toArray k), (x, instObj 142 d), (d, dictOf [⟨PyData.keyHash P "raw", .str "raw" tkr, .str ws tx⟩] 1)]) : WsCut P g L ws x d tx s f s'
inductive WsCut2 (g : Heap) (L : Addr) (mm : Tok → Tok → Addr → Str → Option Value) (R own : List (Addr × Obj)) (x d : Addr) (cns : List Int) (s : Shared) (f : Flow) (s' : Shared) : Prop where
  | mk h' tk' tn tnt (cvs : List Value) (la : Addr) (k : Nat) (e0 : f = .next) (e1 : s' = {s with heap := h', toks := tk'}) (h1 : IntsAre cvs cns) (h7 : @LT.lt Nat _ x la ∧ @LT.lt Nat _ d la) (ho : OwnOff own [la, x, d]) (F : Fr g L h' (mm tn tnt la)) (N : News g L h' ((la, W.listOf cvs.toArray k) :: R)) : WsCut2 g L mm R own x d cns s f s'
local macro_rules | `(tactic| walk_at "exec If") => Mine.ln `Mine.if_stop 0 0 false "" none 0 0 ""
local macro_rules | `(tactic| walk_at "exec For Name Attribute cons nil") => Mine.ln `Mine.for_stop 0 0 false "" none 0 0 ""
section
variable {w : World} {dp un : Nat} {gd : Option (List Code)} {cn : Str} {cs : Scope} {a : Addr} {ccd : Value} {cl : List (Str × Addr)} {outer : List Env} {A₀ : Around} {base h₀ : Heap} {L : Addr} {m mg mb : Str → Option Value} {p : Program} {loose : List Str} {mean : ExcName → Option Value} {s : Shared} {Q E : Value → Shared → Prop} {news : List (Addr × Obj)}
theorem ws_call {ws : Str} {t : Tok} (B : Below A₀ base outer h₀) (F : Fr h₀ L s.heap m) (X : (Mine.hdm.heap_1 w.params).In h₀) (N : News h₀ L s.heap news) (T : Top p loose mean mg mb h₀) (hk : cs.kind = .function) (hd : dp + 5 < recursionLimit) (hu : un + 50 < cLine)
  (hws : ws.length ≤ 100)
  (ret : ∀ x d D D1 (cvs : List Value) t1 t2 t3 t4 t5 t6 t7 t8 h' tk', Fr h₀ L h' m →
    News h₀ L h' ((D, { cls := .type "tuple", data := .seq #[.ref D1, .int ((wsOf ws).2.1 : Int) t6] }) :: (D1, { cls := .type "tuple", data := .seq cvs.toArray }) :: (x, instObj 142 d) :: (d, dictOf [⟨PyData.keyHash w.params "raw", .str "raw" t1, .str ws t⟩, ⟨PyData.keyHash w.params "n", .str "n" t2, .int ((wsOf ws).1 : Int) t7⟩, ⟨PyData.keyHash w.params "nt", .str "nt" t3, .int ((wsOf ws).2.2.1 : Int) t8⟩, ⟨PyData.keyHash w.params "norm", .str "norm" t4, .ref D⟩, ⟨PyData.keyHash w.params "is_simple", .str "is_simple" t5, .bool (decide (((wsOf ws).2.2.2.length : Int) ≤ 1))⟩] 5) :: news) →
    IntsAre cvs (wsOf ws).2.2.2 → (∀ p ∈ news, p.1 < d) → d < x → x < D1 → D1 < D → Q (.ref x) {s with heap := h', toks := tk'}) :
  wpAny (model PySem.Challenge.pw_pg0318_02 w) (ktrTop dp un gd cn cs L a ccd cl outer) (call (.ref 142) [.str ws t]) Q E s := by
  refine' call_cls ?k1 ?k2 ?k3 ?k4 ?k5 ?k6 ?_; (case k1 => k_asm); (case k2 => k_asm); (case k3 => k_asm); (case k4 => k_is); (case k5 => k_is); (case k6 => k_is)
  intro x d h₁ F₁ Nall l1 l2
  have N₁ : News h₀ L h₁ [(x, instObj 142 d), (d, dictOf [] 0)] := News.sub Nall (sub_cons (.head _) (sub_cons (.tail _ (.head _)) sub_nil))
  have N₀ : News h₀ L h₁ news := News.sub Nall fun p hp => .tail _ (.tail _ hp)
  have hbk : ∀ (cvs : List Value) {g h' : Heap} {L' D D1 : Addr} {m' : Str → Option Value} {news' : List (Addr × Obj)} (tk' t1 t2 t3 t4 t5 t6 t7 t8 : Nat) {n b nt : Nat} {cns : List Int}, wsOf ws = (n, b, nt, cns) → IntsAre cvs cns → Keeps [x, d] h₁ g → Fr g L' h' m' →
      News g L' h' ((D, { cls := .type "tuple", data := .seq #[.ref D1, .int (b : Int) t6] }) :: (D1, { cls := .type "tuple", data := .seq cvs.toArray }) :: (x, instObj 142 d) :: (d, dictOf [⟨PyData.keyHash w.params "raw", .str "raw" t1, .str ws t⟩, ⟨PyData.keyHash w.params "n", .str "n" t2, .int (n : Int) t7⟩, ⟨PyData.keyHash w.params "nt", .str "nt" t3, .int (nt : Int) t8⟩, ⟨PyData.keyHash w.params "norm", .str "norm" t4, .ref D⟩, ⟨PyData.keyHash w.params "is_simple", .str "is_simple" t5, .bool (decide ((cns.length : Int) ≤ 1))⟩] 5) :: news') →
      @LT.lt Nat _ x D1 → @LT.lt Nat _ D1 D → Q (.ref x) {s with heap := h', toks := tk'} := by
    intro cvs g h' L' D D1 m' news' tk' t1 t2 t3 t4 t5 t6 t7 t8 n b nt cns e hi hgk F' N' hx hD
    obtain ⟨F'', N'', hk⟩ := leave F₁ N₁ hgk F' N'
    have N3 : News h₀ L h' news := News.off N₀ hk fun p hp q => by
      have := l1 p hp
      simp only [List.map_cons, List.map_nil, List.mem_cons, List.not_mem_nil, or_false] at q
      rcases q with q | q
      · rw [q] at this; exact Nat.lt_asymm this l2
      · rw [q] at this; exact Nat.lt_irrefl _ this
    refine ret x d D D1 cvs t1 t2 t3 t4 t5 t6 t7 t8 h' tk' F'' ?_ (by rw [e]; exact hi) l1 l2 hx hD
    rw [e]
    intro p hp
    rcases List.mem_cons.mp hp with h | hp
    · exact N'' p (h ▸ .head _)
    rcases List.mem_cons.mp hp with h | hp
    · exact N'' p (h ▸ .tail _ (.head _))
    rcases List.mem_cons.mp hp with h | hp
    · exact N'' p (h ▸ .tail _ (.tail _ (.head _)))
    rcases List.mem_cons.mp hp with h | hp
    · exact N'' p (h ▸ .tail _ (.tail _ (.tail _ (.head _))))
    · exact N3 p hp
  clear Nall N₀ l1
  (try k_lt2 l2)
  ktr_enter
  intro g L' h₂ hgs hgk hgn F₂ N₂ B₂ X₂ T₂
  clear hgs hgn B N
  try dsimp only
  change Fr g L' h₂ (mput "ws" (some (.str ws t)) (mput "self" (some (.ref x)) mnil)) at F₂
  k_fold
  try (refine Mine.set_walk ?_; intro A₉ e₉)
  k_steps
  rename News _ _ _ _ => Nn
  rename Fr _ _ _ _ => Fn
  refine ForAt.cutS (WsCut w.params g L' ws x d t) ?cut ?rest
  case rest =>
    rintro f s' ⟨h, tk, tkr, vch, n, b, nt, cvs, cns, tn, tb, tnt, la, k, rfl, rfl, hgo, hin, hn, hb, hnt, hl100, hla, F₃, N₃⟩
    have hcl : cvs.length = cns.length := hin.length
    clear Fn Nn
    dsimp only
    refine wpAny_execs_cons ?_
    k_steps
    rename Fr _ _ _ _ => Fz
    rename News _ _ _ _ => Nz
    refine ⟨rfl, ?_⟩
    exact hbk cvs _ _ _ _ _ _ _ _ _ hgo hin hgk Fz (News.skip3 Nz) (by omega) (by omega)
  refine for_J ?_ (fun _ => rfl)
  k_steps
  refine' Mine.str_J (WsJ w.params ws x d t) ?hh Fn (Mine.News.sub Nn (news' := [(_, W.listOf #[] 0), (x, instObj 142 d), (d, dictOf [⟨PyData.keyHash w.params "raw", .str "raw" _, .str ws t⟩] 1)]) ?hN) ?hj ?turn ?done ?ht
  case hh => rfl
  case ht => intro _ _; rfl
  case hN => exact sub_cons (by k_mem) (sub_cons (by k_mem) (sub_cons (by k_mem) sub_nil))
  case hj =>
    exact WsJ.mk (vch := none) (cvs := []) (cns := []) (n := 0) (b := 0) (nt := 0) rfl .nil (by refine ⟨?_, ?_, ?_, ?_⟩ <;> exact Nat.le_refl _) (by constructor <;> omega) (mext ["ch", "nt", "n", "b", "count", "S", "T", "self", "ws"] ⟨rfl, rfl, rfl, rfl, rfl, rfl, rfl, rfl, rfl, trivial⟩ (by intro y hy; simp only [Off] at hy; simp [wsMap, mput, mnil, hy]))
  case done =>
    rintro m₁ nx h tk ⟨tkr, vch, n, b, nt, cvs, cns, tn, tb, tnt, la, k, hgo, hin, hn, hb, hnt, hlen, rfl, hla, rfl⟩ F₃ N₃
    have hi2 : ws.cps.size ≤ 100 := hws
    exact ⟨_, _, tkr, vch, n, b, nt, cvs, cns, tn, tb, tnt, la, k, rfl, rfl, ws_end hgo, hin, by omega, by omega, by omega, by omega, hla, F₃, N₃⟩
  case turn =>
    rintro i c u m₁ nx h tk own hc hoff ⟨tkr, vch, n, b, nt, cvs, cns, tn, tb, tnt, la, k, hgo, hin, hn, hb, hnt, hlen, rfl, hla, rfl⟩ F₃ N₃
    simp only [List.cons_append, List.nil_append] at N₃
    have ho : OwnOff own [la, x, d] := fun p hp q hq e => by
      simp only [List.mem_cons, List.not_mem_nil, or_false] at hq
      rcases hq with rfl | rfl | rfl
      · exact hoff _ (.head _) p hp e.symm
      · exact hoff _ (.tail _ (.head _)) p hp e.symm
      · exact hoff _ (.tail _ (.tail _ (.head _))) p hp e.symm
    clear hoff Fn Nn
    have hi : i < ws.cps.size := (Array.getElem?_eq_some_iff.mp hc).1
    have hi2 : ws.cps.size ≤ 100 := hws
    have hl100 : cns.length ≤ 100 := by omega
    have hcl : cvs.length = cns.length := hin.length
    k_steps
    refine IfAt.go ?_
    k_steps
    · rename Fr _ _ _ _ => Fz
      rename News _ _ _ _ => Nz
      exact JEnd.intro _ Fz Nz (sub_cons (by k_mem) (sub_cons (by k_mem) (sub_cons (by k_mem) sub_nil))) (by repeat (first | exact sub_self | refine sub_tail ?_)) (own3 (OwnOff.ne ho (by k_memK)) (OwnOff.ne ho (by k_memK)) (OwnOff.ne ho (by k_memK)))
        (WsJ.mk (vch := some (.str ⟨#[c]⟩ u)) (ws_blank hc (by assumption) hgo) hin ⟨by omega, by omega, by omega, by omega⟩ hla (mext ["ch", "nt", "n", "b", "count", "S", "T", "self", "ws"] ⟨rfl, rfl, rfl, rfl, rfl, rfl, rfl, rfl, rfl, trivial⟩ (by intro y hy; simp only [Off] at hy; simp [wsMap, mput, mnil, hy])))
    refine IfAt.go ?_
    k_steps
    · have hgl := wsGrow_length (cns := cns) (b := b)
      refine IfAt.cutS (WsCut2 g L' (fun tn tnt la => wsMap (some (.str ⟨#[c]⟩ u)) (n + 1) b (nt + 1) tn tb tnt t la x ws) ((x, instObj 142 d) :: (d, dictOf [⟨PyData.keyHash w.params "raw", .str "raw" tkr, .str ws t⟩] 1) :: own) own x d (wsGrow cns b)) ?cut2 ?rest2
      case cut2 =>
        refine IfAt.go ?_
        k_steps
        · rename Fr _ _ _ _ => Fz
          rename News _ _ _ _ => Nz
          rename IntsAre _ _ => hI
          rw [← ws_grown (by assumption)] at hI
          have hal := ‹_ ∧ _ ∧ _ ∧ _ ∧ _ ∧ AllLt _ own›
          exact ⟨_, _, _, _, _, _, _, rfl, rfl, hI, by constructor <;> omega, ooX (ne_of_allLt hal.2.2.2.2.2) (ooX (OwnOff.ne ho (by k_memK)) (ooX (OwnOff.ne ho (by k_memK)) oo0)), Fr.eq Fz (mext ["ch", "nt", "n", "b", "count", "S", "T", "self", "ws"] ⟨rfl, rfl, rfl, rfl, rfl, rfl, rfl, rfl, rfl, trivial⟩ (by intro y hy; simp only [Off] at hy; simp [wsMap, mput, mnil, hy])), News.sub Nz (sub_cons (by k_mem) (sub_cons (by k_mem) (sub_cons (by k_mem) (by repeat (first | exact sub_self | refine sub_tail ?_)))))⟩
        · rename Fr _ _ _ _ => Fz
          rename News _ _ _ _ => Nz
          exact ⟨_, _, _, _, _, _, _, rfl, rfl, by rw [ws_same (by assumption)]; exact hin, hla, ho, Fr.eq Fz (mext ["ch", "nt", "n", "b", "count", "S", "T", "self", "ws"] ⟨rfl, rfl, rfl, rfl, rfl, rfl, rfl, rfl, rfl, trivial⟩ (by intro y hy; simp only [Off] at hy; simp [wsMap, mput, mnil, hy])), Nz⟩
      case rest2 =>
        rintro f s' ⟨h9, tk9, tn9, tnt9, cvs9, la9, k9, rfl, rfl, hin9, hla9, ho9, F₉, N₉⟩
        have hcl9 : cvs9.length = (wsGrow cns b).length := hin9.length
        have hg1 : (wsGrow cns b).length ≤ 101 := Nat.le_trans hgl.1 (Nat.max_le.mpr ⟨by omega, by omega⟩)
        have hg2 := hgl.2
        have hg3 : (b : Int) < ((wsGrow cns b).length : Int) := by omega
        rename Fr _ _ _ _ => Fq
        rename News _ _ _ _ => Nq
        dsimp only
        refine wpAny_execs_cons ?_
        k_steps
        rename Fr _ _ _ _ => Fz
        rename News _ _ _ _ => Nz
        rename IntsAre (List.set _ _ _) _ => hI
        rw [show ((wsGrow cns b).set (b : Int).toNat ((wsGrow cns b).getD (b : Int).toNat 0 + 1)) = wsBump cns b by rw [wsBump, Int.toNat_natCast]] at hI
        have hbl := wsBump_length (cns := cns) (b := b)
        exact JEnd.intro _ Fz Nz (sub_cons (by k_mem) (sub_cons (by k_mem) (sub_cons (by k_mem) sub_nil))) (by repeat (first | exact sub_self | refine sub_tail ?_)) (own3 (OwnOff.ne ho9 (.head _)) (OwnOff.ne ho (by k_memK)) (OwnOff.ne ho (by k_memK)))
          (WsJ.mk (vch := some (.str ⟨#[c]⟩ u)) (ws_tab hc (by assumption) (by assumption) hgo) hI ⟨by omega, by omega, by omega, by omega⟩ hla9 (mext ["ch", "nt", "n", "b", "count", "S", "T", "self", "ws"] ⟨rfl, rfl, rfl, rfl, rfl, rfl, rfl, rfl, rfl, trivial⟩ (by intro y hy; simp only [Off] at hy; simp [wsMap, mput, mnil, hy])))
    · rename Fr _ _ _ _ => Fz
      rename News _ _ _ _ => Nz
      exact ⟨_, _, tkr, _, n, b, nt, cvs, cns, tn, tb, tnt, la, k, rfl, rfl, ws_stop hc (by assumption) (by assumption) hgo, hin, by omega, by omega, by omega, by omega, hla, Fr.eq Fz (mext ["ch", "nt", "n", "b", "count", "S", "T", "self", "ws"] ⟨rfl, rfl, rfl, rfl, rfl, rfl, rfl, rfl, rfl, trivial⟩ (by intro y hy; simp only [Off] at hy; simp [wsMap, mput, mnil, hy])), News.sub Nz (sub_cons (by k_mem) (sub_cons (by k_mem) (sub_cons (by k_mem) sub_nil)))⟩
end
end Mine

theorem Mine.tt_p_less : True := by w_top off; exact trivial
namespace Mine
-- WHITESPACE: indent_level, longest_run_of_spaces, less
abbrev WsR := Nat × Nat × Nat × List Int
inductive WsIn (P : Params) (news : List (Addr × Obj)) (x : Addr) (r : WsR) : Prop where
  | mk (ws : Str) (d D D1 : Addr) (cvs : List Value) (t t1 t2 t3 t4 t5 t6 t7 t8 : Tok) (h0 : (x, instObj 142 d) ∈ news) (h1 : (d, dictOf [⟨PyData.keyHash P "raw", .str "raw" t1, .str ws t⟩, ⟨PyData.keyHash P "n", .str "n" t2, .int (r.1 : Int) t7⟩, ⟨PyData.keyHash P "nt", .str "nt" t3, .int (r.2.2.1 : Int) t8⟩, ⟨PyData.keyHash P "norm", .str "norm" t4, .ref D⟩, ⟨PyData.keyHash P "is_simple", .str "is_simple" t5, .bool (decide ((r.2.2.2.length : Int) ≤ 1))⟩] 5) ∈ news) (h2 : (D, { cls := .type "tuple", data := .seq #[.ref D1, .int (r.2.1 : Int) t6] }) ∈ news) (h3 : (D1, { cls := .type "tuple", data := .seq cvs.toArray }) ∈ news) (h4 : IntsAre cvs r.2.2.2) : WsIn P news x r
def wsIl (cns : List Int) (ts : Nat) : Nat → Int
  | 0 => 0
  | k + 1 => wsIl cns ts k + ((ts : Int) + (k : Int)).fdiv (ts : Int) * cns.getD (ts + k) 0
def wsLevel (r : WsR) (ts : Nat) : Int := (r.2.1 : Int) + (ts : Int) * (wsIl r.2.2.2 ts (r.2.2.2.length - ts) + (r.2.2.1 : Int))
theorem WsIn.mono {P : Params} {news news' : List (Addr × Obj)} {x : Addr} {r : WsR} (h : WsIn P news x r) (k : ∀ p ∈ news, p ∈ news') : WsIn P news' x r := by
  obtain ⟨ws, d, D, D1, cvs, t0, t1, t2, t3, t4, t5, t6, t7, t8, m1, m2, m3, m4, hi⟩ := h
  exact ⟨ws, d, D, D1, cvs, t0, t1, t2, t3, t4, t5, t6, t7, t8, k _ m1, k _ m2, k _ m3, k _ m4, hi⟩
inductive IndJ (led : List (Addr × Obj)) (x D1 : Addr) (b ts : Nat) (t6 t : Tok) (cns : List Int) (i : Nat) (m₁ : Str → Option Value) (nx : List (Addr × Obj)) : Prop where
  | mk (vi : Option Value) (til : Tok) (h0 : m₁ = mput "i" vi (mput "il" (some (.int (wsIl cns ts i) til)) (mput "trailing" (some (.int (b : Int) t6)) (mput "count" (some (.ref D1)) (mput "tabsize" (some (.int (ts : Int) t)) (mput "self" (some (.ref x)) mnil)))))) (h1 : nx = led) : IndJ led x D1 b ts t6 t cns i m₁ nx
section
variable {w : World} {dp un : Nat} {gd : Option (List Code)} {cn : Str} {cs : Scope} {a : Addr} {ccd : Value} {cl : List (Str × Addr)} {outer : List Env} {A₀ : Around} {base h₀ : Heap} {L : Addr} {m mg mb : Str → Option Value} {p : Program} {loose : List Str} {mean : ExcName → Option Value} {s : Shared} {Q E : Value → Shared → Prop} {news : List (Addr × Obj)}
theorem indent_call {x : Addr} {r : WsR} {ts : Nat} {t : Tok} (B : Below A₀ base outer h₀) (F : Fr h₀ L s.heap m) (X : (Mine.hdm.heap_1 w.params).In h₀) (N : News h₀ L s.heap news) (T : Top p loose mean mg mb h₀) (hk : cs.kind = .function) (hd : dp + 5 < recursionLimit)
  (hx : WsIn w.params news x r) (hts : 1 ≤ ts ∧ ts ≤ 200) (hlen : r.2.2.2.length ≤ 101)
  (ret : ∀ tk h' tk', Fr h₀ L h' m → News h₀ L h' news → Q (.int (wsLevel r ts) tk) {s with heap := h', toks := tk'}) :
  wpAny (model PySem.Challenge.pw_pg0318_02 w) (ktrTop dp un gd cn cs L a ccd cl outer) (call (.ref 111) [.ref x, .int (ts : Int) t]) Q E s := by
  obtain ⟨n, b, nt, cns⟩ := r
  obtain ⟨ws, d, D, D1, cvs, t0, t1, t2, t3, t4, t5, t6, t7, t8, m1, m2, m3, m4, hi⟩ := hx
  dsimp only at m1 m2 m3 m4 hi hlen
  refine wpAny_call ?_
  have hsub := sub_cons m1 (sub_cons m2 (sub_cons m3 (sub_cons m4 sub_nil)))
  have N₁ := News.sub N hsub
  ktr_enter
  intro g L' h₂ hgs hgk hgn F₂ N₂ B₂ X₂ T₂
  clear hgs hgn B N₁
  change Fr g L' h₂ (mput "tabsize" (some (.int (ts : Int) t)) (mput "self" (some (.ref x)) mnil)) at F₂
  try dsimp only
  k_fold
  try (refine Mine.set_walk ?_; intro A₉ e₉)
  have hcl : cvs.length = cns.length := hi.length
  k_steps
  rename IsRange _ _ _ _ _ _ _ _ => hr
  rename News _ _ _ _ => Nn
  rename Fr _ _ _ _ => Fn
  refine' Mine.range_J (IndJ [(x, instObj 142 d), (d, dictOf [⟨PyData.keyHash w.params "raw", .str "raw" t1, .str ws t0⟩, ⟨PyData.keyHash w.params "n", .str "n" t2, .int (n : Int) t7⟩, ⟨PyData.keyHash w.params "nt", .str "nt" t3, .int (nt : Int) t8⟩, ⟨PyData.keyHash w.params "norm", .str "norm" t4, .ref D⟩, ⟨PyData.keyHash w.params "is_simple", .str "is_simple" t5, .bool (decide ((cns.length : Int) ≤ 1))⟩] 5), (D, { cls := .type "tuple", data := .seq #[.ref D1, .int (b : Int) t6] }), (D1, { cls := .type "tuple", data := .seq cvs.toArray })] x D1 b ts t6 t cns) ?hh hr ?ha ?hb Fn Nn ?hj ?turn ?done ?ht
  case hh => rfl
  case ht => intro _ _; rfl
  case ha => omega
  case hb => omega
  case hj => exact ⟨none, _, mext ["i", "il", "trailing", "count", "tabsize", "self"] ⟨rfl, rfl, rfl, rfl, rfl, rfl, trivial⟩ (by intro y hy; simp only [Off] at hy; simp [mput, mnil, hy]), rfl⟩
  case done =>
    rintro m₁ nx h tk ⟨vi, til, rfl, rfl⟩ F₃ N₃
    clear Fn Nn
    have e5 : ((cns.length : Int) - (ts : Int)).toNat = cns.length - ts := by omega
    rw [e5] at F₃
    k_steps
    rename Fr _ _ _ _ => Fz
    rename News _ _ _ _ => Nz
    obtain ⟨F', N'⟩ := leave_ro F N hsub hgk Fz Nz sub_self
    exact ret _ _ _ F' N'
  case turn =>
    rintro i u m₁ nx h tk own hi' hoff ⟨vi, til, rfl, rfl⟩ F₃ N₃
    simp only [List.cons_append, List.nil_append] at N₃
    clear Fn Nn
    have e6 : 0 ≤ ((ts : Int) + (i : Int)).fdiv ts ∧ ((ts : Int) + (i : Int)).fdiv ts ≤ ts + i := by
      rw [Int.fdiv_eq_ediv_of_nonneg _ (by omega)]; exact ⟨Int.ediv_nonneg (by omega) (by omega), Int.ediv_le_self _ (by omega)⟩
    k_steps
    rename News _ _ _ _ => Nz
    rename Fr _ _ _ _ => Fz
    rw [show ((ts : Int) + (i : Int)).toNat = ts + i by omega] at Fz
    exact JEnd.intro _ Fz Nz (sub_cons (by k_mem) (sub_cons (by k_mem) (sub_cons (by k_mem) (sub_cons (by k_mem) sub_nil)))) (by repeat (first | exact sub_self | refine sub_tail ?_)) hoff ⟨some _, _, mext ["i", "il", "trailing", "count", "tabsize", "self"] ⟨rfl, rfl, rfl, rfl, rfl, rfl, trivial⟩ (by intro y hy; simp only [Off] at hy; simp [mput, mnil, hy]), rfl⟩
theorem indent_callZ {x : Addr} {r : WsR} {z : Int} {t : Tok} (B : Below A₀ base outer h₀) (F : Fr h₀ L s.heap m) (X : (Mine.hdm.heap_1 w.params).In h₀) (N : News h₀ L s.heap news) (T : Top p loose mean mg mb h₀) (hk : cs.kind = .function) (hd : dp + 5 < recursionLimit)
  (hx : WsIn w.params news x r) (hts : 1 ≤ z ∧ z ≤ 200) (hlen : r.2.2.2.length ≤ 101)
  (ret : ∀ tk h' tk', Fr h₀ L h' m → News h₀ L h' news → Q (.int (wsLevel r z.toNat) tk) {s with heap := h', toks := tk'}) :
  wpAny (model PySem.Challenge.pw_pg0318_02 w) (ktrTop dp un gd cn cs L a ccd cl outer) (call (.ref 111) [.ref x, .int z t]) Q E s := by
  obtain ⟨ts, rfl⟩ : ∃ ts : Nat, z = (ts : Int) := ⟨z.toNat, by omega⟩
  exact indent_call B F X N T hk hd hx (by omega) hlen ret
end
end Mine

theorem Mine.tt_p_later : True := by w_top off; exact trivial
namespace Mine
local macro_rules | `(tactic| walk_at "zz") => `(tactic| fail)
-- LAW 02: _law_later
def colGo (size : Nat) : List Nat → Nat → Nat
  | [], c => c
  | x :: r, c => if x = 32 then colGo size r (c + 1) else colGo size r (c / size * size + size)
section
variable {ws : Str} {i c col T size : Nat}
theorem col_blank (hc : ws.cps[i]? = some c) (e : (⟨#[c]⟩ == Str.ofString " ") = true) (h : T = colGo size (ws.cps.toList.drop i) col) : T = colGo size (ws.cps.toList.drop (i + 1)) (col + 1) := by
  rw [sgn (k := 32) (by decide +kernel)] at e
  rw [h, ws_drop hc, colGo, if_pos (of_decide_eq_true e)]
theorem col_tab (hc : ws.cps[i]? = some c) (e : (⟨#[c]⟩ == Str.ofString " ") = false) (h : T = colGo size (ws.cps.toList.drop i) col) : T = colGo size (ws.cps.toList.drop (i + 1)) (col / size * size + size) := by
  rw [sgn (k := 32) (by decide +kernel)] at e
  rw [h, ws_drop hc, colGo, if_neg (of_decide_eq_false e)]
theorem col_end (h : T = colGo size (ws.cps.toList.drop ws.cps.size) col) : T = col := by
  rw [h, ← Array.length_toList, List.drop_length, colGo]
end
abbrev colMap (vs : Option Value) (col : Nat) (tc : Tok) (size : Nat) (ts : Tok) (ws : Str) (tw : Tok) : Str → Option Value :=
  mput "sign" vs (mput "size" (some (.int (size : Int) ts)) (mput "piece" (some (.str ws tw)) (mput "hour" (some (.int (col : Int) tc)) mnil)))
inductive ColJ (ws : Str) (tw : Tok) (size : Nat) (ts : Tok) (c0 : Nat) (i : Nat) (m₁ : Str → Option Value) (nx : List (Addr × Obj)) : Prop where
  | mk vs col tc (h0 : m₁ = colMap vs col tc size ts ws tw) (h1 : nx = []) (h2 : colGo size ws.cps.toList c0 = colGo size (ws.cps.toList.drop i) col) (h3 : col ≤ c0 + 20 * i) : ColJ ws tw size ts c0 i m₁ nx
section
variable {w : World} {dp un : Nat} {gd : Option (List Code)} {cn : Str} {cs : Scope} {a : Addr} {ccd : Value} {cl : List (Str × Addr)} {outer : List Env} {A₀ : Around} {base h₀ : Heap} {L : Addr} {m mg mb : Str → Option Value} {p : Program} {loose : List Str} {mean : ExcName → Option Value} {s : Shared} {Q E : Value → Shared → Prop} {news : List (Addr × Obj)}
theorem later_call {ws : Str} {th tw ts : Tok} {size c0 : Nat} (B : Below A₀ base outer h₀) (F : Fr h₀ L s.heap m) (X : (Mine.hdm.heap_1 w.params).In h₀) (N : News h₀ L s.heap news) (T : Top p loose mean mg mb h₀) (hk : cs.kind = .function) (hd : dp + 5 < recursionLimit)
  (hs : 1 ≤ size ∧ size ≤ 10) (hc0 : c0 ≤ 1000) (hwz : ws.length ≤ 10)
  (ret : ∀ tc h' tk', Fr h₀ L h' m → News h₀ L h' news → Q (.int (colGo size ws.cps.toList c0 : Int) tc) {s with heap := h', toks := tk'}) :
  wpAny (model PySem.Challenge.pw_pg0318_02 w) (ktrTop dp un gd cn cs L a ccd cl outer) (call (.ref 325) [.int (c0 : Int) th, .str ws tw, .int (size : Int) ts]) Q E s := by
  refine wpAny_call ?_
  have N₁ : News h₀ L s.heap [] := News.sub N sub_nil
  ktr_enter
  intro g L' h₂ hgs hgk hgn F₂ N₂ B₂ X₂ T₂
  clear hgs hgn B N₁
  change Fr g L' h₂ (mput "size" (some (.int (size : Int) ts)) (mput "piece" (some (.str ws tw)) (mput "hour" (some (.int (c0 : Int) th)) mnil))) at F₂
  try dsimp only
  k_fold
  try (refine Mine.set_walk ?_; intro A₉ e₉)
  k_steps
  rename News _ _ _ _ => Nn
  rename Fr _ _ _ _ => Fn
  refine' Mine.str_J (ColJ ws tw size ts c0) ?hh Fn Nn ?hj ?turn ?done ?ht
  case hh => rfl
  case ht => intro _ _; rfl
  case hj => exact ⟨none, c0, _, mext ["sign", "size", "piece", "hour"] ⟨rfl, rfl, rfl, rfl, trivial⟩ (by intro y hy; simp only [Off] at hy; simp [colMap, mput, mnil, hy]), rfl, rfl, Nat.le_refl _⟩
  case done =>
    rintro m₁ nx h tk ⟨vs, col, tc, rfl, rfl, hgo, hcl⟩ F₃ N₃
    rw [col_end hgo] at ret
    clear Fn Nn
    k_steps
    rename Fr _ _ _ _ => Fz
    rename News _ _ _ _ => Nz
    obtain ⟨F', N'⟩ := leave_ro F N sub_nil hgk Fz Nz sub_nil
    exact ret _ _ _ F' N'
  case turn =>
    rintro i c u m₁ nx h tk own hc hoff ⟨vs, col, tc, rfl, rfl, hgo, hcl⟩ F₃ N₃
    clear Fn Nn
    have hi9 : i < ws.cps.size := (Array.getElem?_eq_some_iff.mp hc).1
    have hwz2 : ws.cps.size ≤ 10 := hwz
    have hdm : col / size * size ≤ col := Nat.div_mul_le_self _ _
    have hnc : (col : Int) / (size : Int) * (size : Int) + (size : Int) = ((col / size * size + size : Nat) : Int) := by
      rw [Int.natCast_add, Int.natCast_mul, Int.natCast_ediv]
    have hnf : (col : Int).fdiv (size : Int) * (size : Int) + (size : Int) = ((col / size * size + size : Nat) : Int) := by
      rw [Int.fdiv_eq_ediv_of_nonneg _ (Int.natCast_nonneg _)]; exact hnc
    k_steps
    · rename Fr _ _ _ _ => Fz
      rename News _ _ _ _ => Nz
      exact JEnd.intro [] Fz Nz sub_nil (fun q hq => hq) hoff ⟨some (.str ⟨#[c]⟩ u), col + 1, _, mext ["sign", "size", "piece", "hour"] ⟨rfl, rfl, rfl, rfl, trivial⟩ (by intro y hy; simp only [Off] at hy; simp [colMap, mput, mnil, hy]), rfl, col_blank hc (by assumption) hgo, by omega⟩
    · rename Fr _ _ _ _ => Fz
      rename News _ _ _ _ => Nz
      rw [hnf] at Fz
      exact JEnd.intro [] Fz Nz sub_nil (fun q hq => hq) hoff ⟨some (.str ⟨#[c]⟩ u), col / size * size + size, _, mext ["sign", "size", "piece", "hour"] ⟨rfl, rfl, rfl, rfl, trivial⟩ (by intro y hy; simp only [Off] at hy; simp [colMap, mput, mnil, hy]), rfl, col_tab hc (by assumption) hgo, by omega⟩
end
end Mine

-- AN ATTRIBUTE LAID ON A FUNCTION, AND READ BACK
namespace Mine
open PySem PySem.Builtin PySem.Builtin.ObjectAttr
theorem fn_store : StoreFacts "function" [.type "function", .type "object"] "object.__setattr__" "object" where
  mro := by kernel_rfl
  slot := .of (owner := "object") (n := "__setattr__") (by rw [typeLookup_type, builtinLookup_eq_fast]; kernel_rfl) (by decide +kernel) (by decide +kernel) (by decide +kernel)
    (by first | exact .inl (by decide +kernel) | exact .inr (by decide +kernel)) (by rw [isSubtype_type]; kernel_rfl)
  entry := F.entry_object_sa
  kind := by decide +kernel
  split := by decide +kernel
  hasOwner := by decide +kernel
  args := fun a b c => by unfold argsOk; kernel_rfl
  passes := fun self => by kernel_rfl
theorem fn_has : typeHasDict (.type "function") = true := by decide +kernel
section
variable {prog : Program} {w : World} {A : Around} {E : Value → Shared → Prop} {h : Heap} {g : Array GenState} {d : Drawn} {t : Nat} {os : OsState} {x : Addr} {fd : FuncData} {sl : Array (Option Value)} {name : Str} {v : Value}
theorem fn_entry {tk : Tok} {Q : Fin → Shared → Prop} (hB : typeLookup (.type "function") name = pure none) (hx : h.get? x = some ⟨.type "function", none, .func fd, sl⟩)
    (hq : ∀ h' tk', h'.get? x = some ⟨.type "function", some h.objs.size, .func fd, sl⟩ → h'.Ns1 h.objs.size (fun y => if y = name then some v else none) →
      (∀ b o, b ≠ x → h.get? b = some o → h'.get? b = some o) → Q (.done (.ret .none)) ⟨h', g, d, tk', os⟩) :
    wpAny (model prog w) A (Builtin.«object.__setattr__» ⟨[.ref x, .str name tk, v], []⟩) Q E ⟨h, g, d, t, os⟩ := by
  have hpass := fn_store.passes (.ref x)
  have hT : (Shared.mk h g d t os).TypeIs (.ref x) "function" := ⟨_, hx, rfl⟩
  have hmro := fn_store.mro
  have hx₁ : (h.push { cls := .type "dict", data := .dict #[] }).get? x = some ⟨.type "function", none, .func fd, sl⟩ := Heap.get?_push_of_some _ hx
  have hxs : x ≠ h.objs.size := Nat.ne_of_lt (Heap.lt_size hx)
  have hgd : ((h.push { cls := .type "dict", data := .dict #[] }).update x fun o => { cls := o.cls, dict := some h.objs.size, data := o.data, slots := o.slots }).get? h.objs.size
      = some { cls := .type "dict", data := .dict #[] } := (Heap.get?_update_ne _ _ _ _ hxs.symm).trans (Heap.get?_push_at rfl rfl)
  have hnd : ((h.push { cls := .type "dict", data := .dict #[] }).update x fun o => { cls := o.cls, dict := some h.objs.size, data := o.data, slots := o.slots }).Ns h.objs.size (fun _ => none) :=
    ⟨_, #[], _, hgd, rfl, fun e he => absurd he (by simp), fun _ => rfl⟩
  unfold Builtin.«object.__setattr__»
  repeat (first | (with_reducible (first | refine PySem.wpAny_bind ?_ | refine PySem.wpAny_pure ?_)) | rw [refuse_eq] | rw [hpass] | (with_reducible refine wpAny_typeOf hT ?_) | rw [hmro] | rw [hB] | ((with_reducible refine wpAny_nsSet1 (m := fun _ => none) ?hns ?_); (case hns => exact Heap.Ns1.of_empty hnd); intro h' hn' hs) | wp_step)
  obtain ⟨oD, esD, epD, hoD, hdD, hcD⟩ := hn'.count (Within.cons name v Within.nil)
  have hpl : oD.data.pastItsLine = none := by rw [hdD]; exact pastItsLine_dict (Nat.le_trans hcD (by rw [List.length_cons, List.length_nil, sizeLine_eq]; omega))
  refine wpAny_loadPart_at hoD ?_
  rw [hpl]
  wp_walk
  refine hq h' _ ?_ hn' fun b o hbx hb => ?_
  · refine (hs.2 x hxs).trans (Heap.get?_update_self _ hx₁ rfl)
  · exact (hs.2 b (Nat.ne_of_lt (Heap.lt_size hb))).trans ((Heap.get?_update_ne _ _ _ _ hbx).trans (Heap.get?_push_of_some _ hb))
theorem fn_setattr {Q : Unit → Shared → Prop} (hB : typeLookup (.type "function") name = pure none) (hx : h.get? x = some ⟨.type "function", none, .func fd, sl⟩)
    (hq : ∀ h' tk', h'.get? x = some ⟨.type "function", some h.objs.size, .func fd, sl⟩ → h'.Ns1 h.objs.size (fun y => if y = name then some v else none) →
      (∀ b o, b ≠ x → h.get? b = some o → h'.get? b = some o) → Q () ⟨h', g, d, tk', os⟩) :
    wpAny (model prog w) A (setAttr (.ref x) name v) Q E ⟨h, g, d, t, os⟩ := by
  have hT : (Shared.mk h g d t os).TypeIs (.ref x) "function" := ⟨_, hx, rfl⟩
  have f3 := fn_store.slot.bind (.ref x)
  have f2 := fn_store.slot.lookup
  unfold setAttr callSpecial? specialOf
  repeat (any_goals (first | assumption | (with_reducible refine wpAny_typeOf hT ?_) | rw [f2] | wp_step))
  refine codeAny_call_builtin fn_store.slot.plain fn_store.entry (fn_store.slot.check _ _ _ _ _ _ _ _ hT (fn_store.args _ _ _) (fn_entry hB hx fun h' tk' a b c => ?_))
  repeat (any_goals (first | assumption | wp_step))
  exact hq h' tk' a b c
theorem fn_lk_ga : typeLookup (.type "function") "__getattribute__" = pure (some (.builtin "object.__getattribute__")) := by rw [typeLookup_type, builtinLookup_eq_fast]; kernel_rfl
theorem fn_lk_getattr : typeLookup (.type "function") "__getattr__" = pure none := by rw [typeLookup_type, builtinLookup_eq_fast]; kernel_rfl
theorem fn_lk_read : typeLookup (.type "function") "read" = pure none := by rw [typeLookup_type, builtinLookup_eq_fast]; kernel_rfl
theorem fn_entry_ga : entryFor table "object.__getattribute__" = some Builtin.«object.__getattribute__» := entryFor_of_tree (by kernel_rfl)
theorem fn_slot_ga : Slot "function" "__getattribute__" "object.__getattribute__" :=
  .of (owner := "object") (n := "__getattribute__") fn_lk_ga (by decide +kernel) (by decide +kernel) (by decide +kernel)
    (by first | exact .inl (by decide +kernel) | exact .inr (by decide +kernel)) (by rw [isSubtype_type]; kernel_rfl)
theorem fn_args_ga (a b : Value) : argsOk "object.__getattribute__" ⟨[a, b], []⟩ := by unfold argsOk; kernel_rfl
theorem fn_load {tk : Tok} {dx : Addr} {mA : Str → Option Value} {Q : Fin → Shared → Prop} (hB : typeLookup (.type "function") name = pure none) (hx : h.get? x = some ⟨.type "function", some dx, .func fd, sl⟩) (hns : h.Ns1 dx mA) (hv : mA name = some v)
    (hq : Q (.done (.ret v)) ⟨h, g, d, t, os⟩) :
    wpAny (model prog w) A (Builtin.«object.__getattribute__» ⟨[.ref x, .str name tk], []⟩) Q E ⟨h, g, d, t, os⟩ := by
  have hT : (Shared.mk h g d t os).TypeIs (.ref x) "function" := ⟨_, hx, rfl⟩
  unfold Builtin.«object.__getattribute__»
  repeat (first | (with_reducible refine wpAny_typeOf hT ?_) | rw [hB] | (with_reducible refine wpAny_nsGet hns.ns ?_; rw [hv]) | wp_step)
  exact hq
theorem fn_getattr {expr : Bool} {dx : Addr} {mA : Str → Option Value} {Q : Value → Shared → Prop} (hB : typeLookup (.type "function") name = pure none) (hx : h.get? x = some ⟨.type "function", some dx, .func fd, sl⟩) (hns : h.Ns1 dx mA) (hv : mA name = some v)
    (hh : handedOut v = pure v) (hq : Q v ⟨h, g, d, t + 1, os⟩) : wpAny (model prog w) A (getAttr (.ref x) name expr) Q E ⟨h, g, d, t, os⟩ := by
  have hT : (Shared.mk h g d t os).TypeIs (.ref x) "function" := ⟨_, hx, rfl⟩
  have hT1 : (Shared.mk h g d (t + 1) os).TypeIs (.ref x) "function" := ⟨_, hx, rfl⟩
  have hg := fn_lk_ga
  unfold getAttr getAttrBy
  repeat (first | (with_reducible refine wpAny_typeOf hT ?_) | (with_reducible refine wpAny_typeOf hT1 ?_) | rw [hg] | wp_step)
  have fin : wpAny (model prog w) A (boundAndCalled (.builtin "object.__getattribute__") (.ref x) (.str name t)) (fun a s' => wpAny (model prog w) A (handedOut a) Q E s') (fun e s' => wpAny (model prog w) A (getattributeRaised (.ref x) (.str name t) (.type "function") e none true expr) Q E s') ⟨h, g, d, t + 1, os⟩ := by
    have f3 := fn_slot_ga.bind (.ref x)
    unfold boundAndCalled
    repeat (first | rw [f3] | wp_step)
    refine codeAny_call_builtin fn_slot_ga.plain fn_entry_ga (fn_slot_ga.check _ _ _ _ _ _ _ _ hT1 (fn_args_ga _ _) (fn_load hB hx hns hv ?_))
    show wpAny _ _ (handedOut v) _ _ _
    rw [hh]
    exact wpAny_pure hq
  cases expr <;> exact fin
theorem fn_getmethod {pl : Sem Bool} {dx : Addr} {mA : Str → Option Value} {Q : Value × List Value → Shared → Prop} (hB : typeLookup (.type "function") name = pure none) (hx : h.get? x = some ⟨.type "function", some dx, .func fd, sl⟩) (hns : h.Ns1 dx mA) (hv : mA name = some v)
    (hh : handedOut v = pure v) (hq : Q (v, []) ⟨h, g, d, t + 1, os⟩) : wpAny (model prog w) A (getMethod (.ref x) name pl) Q E ⟨h, g, d, t, os⟩ := by
  have hT : (Shared.mk h g d t os).TypeIs (.ref x) "function" := ⟨_, hx, rfl⟩
  have hg := fn_lk_ga
  have hg2 := fn_lk_getattr
  have hcan := F.canon_object_ga
  unfold getMethod specialOf
  repeat (first | (with_reducible refine fn_getattr hB hx hns hv hh ?_) | (with_reducible refine wpAny_typeOf hT ?_) | rw [hg] | rw [hg2] | rw [hB] | simp only [hcan, Bool.false_eq_true, if_false] | wp_step)
  exact hq
end
end Mine

-- iter(f, ''): THE NEXT OF AN ITERATOR OVER CALLS
namespace Mine
open PySem PySem.Builtin
theorem ci_slot : Slot "callable_iterator" "__next__" "callable_iterator.__next__" :=
  .of (owner := "callable_iterator") (n := "__next__") (by rw [typeLookup_type, builtinLookup_eq_fast]; kernel_rfl) (by decide +kernel) (by decide +kernel) (by decide +kernel)
    (by first | exact .inl (by decide +kernel) | exact .inr (by decide +kernel)) (by rw [isSubtype_type]; kernel_rfl)
theorem ci_entry : entryFor table "callable_iterator.__next__" = some Builtin.«callable_iterator.__next__» := entryFor_of_tree (by kernel_rfl)
theorem ci_args (a : Value) : argsOk "callable_iterator.__next__" ⟨[a], []⟩ := by unfold argsOk; kernel_rfl
abbrev ciObj (b : Addr) (t0 : Tok) : Obj := { cls := .type "callable_iterator", data := .fields #[.ref b, .str "" t0, .bool false] }
abbrev ciEnd : Obj := { cls := .type "callable_iterator", data := .fields #[.none, .none, .bool true] }
abbrev methObj (f x : Addr) : Obj := { cls := .type "method", data := .fields #[.ref f, .ref x] }
section
variable {prog : Program} {w : World} {A : Around} {E : Value → Shared → Prop} {s : Shared} {I b f x : Addr} {t0 : Tok} {fd : FuncData} {fo : Option Addr} {fc : Value} {sl : Array (Option Value)}
theorem ci_borrowed {Q : Value → Shared → Prop} (hb : s.heap.get? b = some (methObj f x)) (hf : s.heap.get? f = some ⟨fc, fo, .func fd, sl⟩)
    (hc : codeAny (model prog w) A (.call (.ref b) ⟨[], []⟩) (fun r s' => match r with | .ok (.ret v) => Q v s' | .ok _ => False | .error e => E e s') s) :
    wpAny (model prog w) A (callOutOfASlot (.ref b)) Q E s := by
  unfold callOutOfASlot borrowsExactly
  repeat (first | (with_reducible refine wpAny_load hb ?_) | (with_reducible refine wpAny_load hf ?_) | wp_step)
  intro Γ p hΓ
  have this := wpAny_runValue hc Γ p hΓ
  rw [Sem.wp_runValue] at this
  rw [Sem.wp_call]
  refine Eq.mp ?_ this
  congr 1
  funext r s'
  cases r with
  | error e => rfl
  | ok f => cases f <;> rfl
theorem ci_next {Q : Option Value → Shared → Prop} (hh : A.handled = none) (hI : s.heap.get? I = some (ciObj b t0)) (hb : s.heap.get? b = some (methObj f x)) (hf : s.heap.get? f = some ⟨fc, fo, .func fd, sl⟩)
    (hc : codeAny (model prog w) A.in1 (.call (.ref f) ⟨[.ref x], []⟩) (fun r s' => ∃ c tk h' tk', r = .ok (.ret (.str c tk)) ∧ s' = { s with heap := h', toks := tk' } ∧ h'.get? I = some (ciObj b t0) ∧ h'.get? b = some (methObj f x) ∧ h'.get? f = some ⟨fc, fo, .func fd, sl⟩ ∧
      (c ≠ "" → Q (some (.str c tk)) { s with heap := h', toks := tk' }) ∧ (c = "" → ∀ h'', (∀ a o, a ≠ I → h'.get? a = some o → h''.get? a = some o) → h''.get? I = some ciEnd → Q none { s with heap := h'', toks := tk' })) s) :
    wpAny (model prog w) A (pyNext (.ref I)) Q E s := by
  have hT : s.TypeIs (.ref I) "callable_iterator" := ⟨_, hI, rfl⟩
  unfold pyNext
  refine wpAny_bind (wpAny_attempt (wpAny_callSpecial?_slot (name := Str.ofString "__next__") hT ci_slot (wpAny_call_entry ci_slot hT ci_entry ?_ (ci_args _))))
  show wpAny _ _ (field (.ref I) 2 >>= _) _ _ s
  refine wpAny_bind (wpAny_field hI rfl (x := .bool false) rfl ?_)
  show wpAny _ _ (field (.ref I) 0 >>= _) _ _ s
  refine wpAny_bind (wpAny_field hI rfl (x := .ref b) rfl ?_)
  refine wpAny_bind (wpAny_attempt (ci_borrowed hb hf (ks_codeAny_call_bound hb (codeAny_mono hc ?_))))
  rintro r s' ⟨c, tk, h', tk', rfl, rfl, hI', hb', hf', h1, h2⟩
  dsimp only
  refine wpAny_bind (wpAny_field hI' rfl (x := .bool false) rfl ?_)
  show wpAny _ _ (field (.ref I) 1 >>= _) _ _ _
  refine wpAny_bind (wpAny_field hI' rfl (x := .str "" t0) rfl ?_)
  refine wpAny_bind (wpAny_holding (wpAny_eqBool_str ?_))
  by_cases hc0 : c = Str.ofString ""
  · have e0 : (!decide (Str.ofString "" = c)) = false := by rw [hc0]; simp
    rw [e0]
    have hpast : ∀ h'', (∀ a o, a ≠ I → h'.get? a = some o → h''.get? a = some o) → h''.get? I = some ciEnd → Q none { s with heap := h'', toks := tk' } := h2 hc0
    rw [if_neg (by decide)]
    refine wpAny_bind (wpAny_rule (wpAny_bind ?_))
    show wpAny _ _ (field (.ref I) 0 >>= fun old => slotLetsGo "callable_iterator.__next__" old _ >>= fun _ => setField (.ref I) 0 .none >>= fun _ => setField (.ref I) 1 .none >>= fun _ => setField (.ref I) 2 (.bool true)) _ _ _
    refine wpAny_bind (wpAny_field hI' rfl (x := .ref b) rfl ?_)
    refine wpAny_bind ?_
    have hlg : ∀ (bz : Code → Bool) (K : Unit → Shared → Prop) (E' : Value → Shared → Prop) (s' : Shared), s'.heap = h' → K () s' → wpAny (model prog w) A.in1 (slotLetsGo "callable_iterator.__next__" (.ref b) bz) K E' s' := by
      intro bz K E' s' e hK
      have hb2 : s'.heap.get? b = some (methObj f x) := by rw [e]; exact hb'
      have hf2 : s'.heap.get? f = some ⟨fc, fo, .func fd, sl⟩ := by rw [e]; exact hf'
      unfold slotLetsGo borrowsExactly
      repeat (first | (with_reducible refine wpAny_load hb2 ?_) | (with_reducible refine wpAny_load hf2 ?_) | wp_step)
      exact hK
    refine hlg _ _ _ _ rfl ?_
    refine wpAny_bind (wpAny_setField_rec hI' (by simp) fun h₁ g₁ k₁ => ?_)
    refine wpAny_bind (wpAny_setField_rec g₁ (by simp) fun h₂ g₂ k₂ => ?_)
    refine wpAny_setField_rec g₂ (by simp) fun h₃ g₃ k₃ => ?_
    have kk : ∀ a o, a ≠ I → h'.get? a = some o → h₃.get? a = some o := fun a o n e => (k₃.2 a n).trans ((k₂.2 a n).trans ((k₁.2 a n).trans e))
    have gI : h₃.get? I = some ciEnd := g₃
    show wpAny _ _ (newExc (.type "StopIteration") [] >>= _) _ _ _
    refine wpAny_bind ?_
    simp only [newExc, newTuple]
    refine wpAny_bind (wpAny_newObj_type ?_ (by size_fits))
    refine wpAny_bind (m := firstArgMember _ _) (wpAny_of_eq (a := Value.none) (by first | rfl | (simp only [firstArgMember]; rfl)) ?_)
    refine wpAny_newObj_type ?_ (by size_fits)
    simp only [raiseNew]
    refine wpAny_bind (wpAny_handled ?_)
    rw [show A.in1.handled = none from hh]
    refine wpAny_bind (wpAny_pure (wpAny_throw ?_))
    refine wpAny_bind (wpAny_isInstance (T := "StopIteration") (b := true) ⟨_, Heap.get?_push_size _ rfl, rfl⟩ isSubtype_stop ?_)
    refine wpAny_pure (hpast _ (fun a o n e => Heap.get?_push_of_some _ (Heap.get?_push_of_some _ (kk a o n e))) (Heap.get?_push_of_some _ (Heap.get?_push_of_some _ gI)))
  · have e0 : (!decide (Str.ofString "" = c)) = true := by rw [decide_eq_false (fun e => hc0 e.symm)]; rfl
    rw [e0, if_pos rfl]
    exact wpAny_pure ⟨_, rfl, wpAny_pure (h1 hc0)⟩
theorem ci_slot_iter : Slot "callable_iterator" "__iter__" "callable_iterator.__iter__" :=
  .of (owner := "callable_iterator") (n := "__iter__") (by rw [typeLookup_type, builtinLookup_eq_fast]; kernel_rfl) (by decide +kernel) (by decide +kernel) (by decide +kernel)
    (by first | exact .inl (by decide +kernel) | exact .inr (by decide +kernel)) (by rw [isSubtype_type]; kernel_rfl)
theorem ci_entry_iter : entryFor table "callable_iterator.__iter__" = some Builtin.«dict_keyiterator.__iter__» :=
  entryFor_alias (id' := "dict_keyiterator.__iter__") (by kernel_rfl) rfl (by decide +kernel) (by kernel_rfl)
theorem ci_args_iter (a : Value) : argsOk "callable_iterator.__iter__" ⟨[a], []⟩ := by unfold argsOk; kernel_rfl
theorem ci_pyIter {o : Obj} {Q : Value → Shared → Prop} (hI : s.heap.get? I = some o) (hc : o.cls = .type "callable_iterator") (h : Q (.ref I) s) : wpAny (model prog w) A (pyIter (.ref I)) Q E s := by
  have hT : s.TypeIs (.ref I) "callable_iterator" := ⟨_, hI, hc⟩
  refine wpAny_pyIter_slot hT ci_slot_iter (wpAny_call_entry ci_slot_iter hT ci_entry_iter ?_ (ci_args_iter _))
  show wpAny _ _ (ret (.ref I)) _ _ s
  exact wpAny_pure ⟨_, rfl, "callable_iterator", _, hT, ci_slot.lookup, h⟩
theorem ci_meth_call : typeLookup (.type "method") "__call__" = pure (some (.builtin "method.__call__")) := by rw [typeLookup_type, builtinLookup_eq_fast]; kernel_rfl
theorem ci_args2 (a b : Value) : argsOk "iter" ⟨[a, b], []⟩ := by unfold argsOk; kernel_rfl
theorem ci_entry0 : entryFor table "iter" = some Builtin.«iter» := entryFor_of_fast (by kernel_rfl)
theorem ci_iter {Q : Value → Shared → Prop} (hb : s.heap.get? b = some (methObj f x)) (h : Q (.ref s.heap.objs.size) { s with heap := s.heap.push (ciObj b t0) }) :
    wpAny (model prog w) A (call (.builtin "iter") [.ref b, .str "" t0]) Q E s := by
  have hv := ci_meth_call
  have hT : s.TypeIs (.ref b) "method" := ⟨_, hb, rfl⟩
  refine Calls.call_function_entry (by decide +kernel) (by decide +kernel) ci_entry0 (ci_args2 _ _) ?_
  unfold Builtin.«iter» specialOf
  repeat (first | (with_reducible refine wpAny_typeOf hT ?_) | rw [hv] | wp_step)
  exact ⟨_, rfl, h⟩
end
end Mine

-- SEVERAL OBJECTS OF THE LEDGER TURNED BY ONE CALL; LOOPS OVER iter(f, '')
namespace Mine
open PySem.Calls
inductive UpdS (ch : List (Addr × Obj)) : List (Addr × Obj) → List (Addr × Obj) → Prop
  | nil : UpdS ch [] []
  | own {r} : (∀ q ∈ ch, ∀ p ∈ r, p.1 ≠ q.1) → UpdS ch r r
  | hit {a o o' r r'} : (a, o') ∈ ch → UpdS ch r r' → UpdS ch ((a, o) :: r) ((a, o') :: r')
  | skip {p r r'} : (∀ q ∈ ch, q.1 ≠ p.1) → UpdS ch r r' → UpdS ch (p :: r) (p :: r')
theorem News.updS {h₀ h h' : Heap} {L : Addr} {ch news news' : List (Addr × Obj)} (u : UpdS ch news news') (N : News h₀ L h news) (K : Keeps (ch.map (·.1)) h h') (N' : News h₀ L h' ch) : News h₀ L h' news' := by
  have keep : ∀ p : Addr × Obj, (∀ q ∈ ch, q.1 ≠ p.1) → h.get? p.1 = some p.2 → h'.get? p.1 = some p.2 := fun p hp e => K _ _ e fun q => by
    obtain ⟨r, hr, e'⟩ := List.mem_map.mp q
    exact hp r hr e'
  induction u with
  | nil => exact fun _ h => nomatch h
  | own hr => exact fun p hp => ⟨keep p (fun q hq e => hr q hq p hp e.symm) (N p hp).1, (N p hp).2⟩
  | hit hm _ ih => exact List.forall_mem_cons.mpr ⟨N' _ hm, ih (News.sub N fun p hp => .tail _ hp)⟩
  | skip hp _ ih => exact List.forall_mem_cons.mpr ⟨⟨keep _ hp (N _ (.head _)).1, (N _ (.head _)).2⟩, ih (News.sub N fun p hp => .tail _ hp)⟩
theorem leave_S {h₀ h₁ g h' : Heap} {L L' : Addr} {m m' : Str → Option Value} {known news out : List (Addr × Obj)} (fp : List Addr) (F₁ : Fr h₀ L h₁ m) (N₁ : News h₀ L h₁ news) (hs : ∀ p ∈ known, p ∈ news) (hgk : Keeps (known.map (·.1)) h₁ g) (F' : Fr g L' h' m') (N' : News g L' h' out) (ho : ∀ p ∈ known, p ∈ out ∨ p.1 ∈ fp) :
    Fr h₀ L h' m ∧ Keeps fp h₁ h' ∧ News h₀ L h' out := by
  obtain ⟨F'', N'', hk⟩ := leave F₁ (News.sub N₁ hs) hgk F' N'
  refine ⟨F'', fun b o e n => ?_, N''⟩
  by_cases q : b ∈ known.map (·.1)
  · obtain ⟨r, hr, e'⟩ := List.mem_map.mp q
    rcases ho r hr with h1 | h1
    · have a := (N₁ r (hs r hr)).1
      rw [e', e] at a
      have : r.2 = o := (Option.some.inj a).symm
      have := (N'' r h1).1
      rw [e'] at this
      rw [this]; congr 1
    · exact absurd (e' ▸ h1) n
  · exact hk _ _ e q
section
variable {prog : Program} {w : World} {A : Around} {E : Value → Shared → Prop} {s : Shared} {I : Addr}
theorem ci_next_end {Q : Option Value → Shared → Prop} (hh : A.handled = none) (hI : s.heap.get? I = some ciEnd)
    (h : ∀ h', (∀ a o, s.heap.get? a = some o → h'.get? a = some o) → Q none { s with heap := h' }) : wpAny (model prog w) A (pyNext (.ref I)) Q E s := by
  have hT : s.TypeIs (.ref I) "callable_iterator" := ⟨_, hI, rfl⟩
  unfold pyNext
  refine wpAny_bind (wpAny_attempt (wpAny_callSpecial?_slot (name := Str.ofString "__next__") hT ci_slot (wpAny_call_entry ci_slot hT ci_entry ?_ (ci_args _))))
  show wpAny _ _ (field (.ref I) 2 >>= _) _ _ s
  refine wpAny_bind (wpAny_field hI rfl (x := .bool true) rfl ?_)
  refine wpAny_bind (wpAny_rule (wpAny_bind ?_))
  show wpAny _ _ (newExc (.type "StopIteration") [] >>= _) _ _ _
  refine wpAny_bind ?_
  simp only [newExc, newTuple]
  refine wpAny_bind (wpAny_newObj_type ?_ (by size_fits))
  refine wpAny_bind (m := firstArgMember _ _) (wpAny_of_eq (a := Value.none) (by first | rfl | (simp only [firstArgMember]; rfl)) ?_)
  refine wpAny_newObj_type ?_ (by size_fits)
  simp only [raiseNew]
  refine wpAny_bind (wpAny_handled ?_)
  rw [show A.in1.handled = none from hh]
  refine wpAny_bind (wpAny_pure (wpAny_throw ?_))
  refine wpAny_bind (wpAny_isInstance (T := "StopIteration") (b := true) ⟨_, Heap.get?_push_size _ rfl, rfl⟩ isSubtype_stop ?_)
  exact wpAny_pure (h _ fun a o e => Heap.get?_push_of_some _ (Heap.get?_push_of_some _ e))
theorem ci_iter_K {h₀ : Heap} {L f x b : Addr} {t0 : Tok} {m : Str → Option Value} {news : List (Addr × Obj)} {Q : Value → Shared → Prop} (F : Fr h₀ L s.heap m) (N : News h₀ L s.heap news) (hb : (b, methObj f x) ∈ news)
    (h : ∀ I h', Fr h₀ L h' m → News h₀ L h' ((I, ciObj b t0) :: news) → (∀ p ∈ news, p.1 < I) → Q (.ref I) { s with heap := h' }) :
    wpAny (model prog w) A (call (.builtin "iter") [.ref b, .str "" t0]) Q E s :=
  ci_iter (N _ hb).1 (h _ _ (F.push _) (N.push F _) fun p hp => Heap.lt_size (N p hp).1)
end
end Mine
-- WHILE by an invariant over map and ledger, and a measure
namespace Mine
section
variable {prog : Program} {w : World} {A : Around} {E : Value → Shared → Prop} {Q : Flow → Shared → Prop} {s : Shared} {env : Env} {h₀ : Heap} {L : Addr}
inductive WEnd (h₀ : Heap) (L : Addr) (J : Nat → (Str → Option Value) → List (Addr × Obj) → Prop) (n : Nat) (s s₂ : Shared) : Prop where
  | mk h' tk m' nx n' (h0 : s₂ = { s with heap := h', toks := tk }) (h1 : Fr h₀ L h' m') (h2 : News h₀ L h' nx) (h3 : n' < n) (h4 : J n' m' nx) : WEnd h₀ L J n s s₂
theorem WEnd.intro {J : Nat → (Str → Option Value) → List (Addr × Obj) → Prop} {n : Nat} {h' : Heap} {tk : Nat} {m' : Str → Option Value} {all : List (Addr × Obj)} (nx : List (Addr × Obj)) (n' : Nat) (F : Fr h₀ L h' m') (N : News h₀ L h' all) (sub : ∀ p ∈ nx, p ∈ all) (hn : n' < n) (hj : J n' m' nx) :
    WEnd h₀ L J n s { s with heap := h', toks := tk } := ⟨h', tk, m', nx, n', rfl, F, fun p hp => N p (sub p hp), hn, hj⟩
def WPost (h₀ : Heap) (L : Addr) (J : Nat → (Str → Option Value) → List (Addr × Obj) → Prop) (n : Nat) (s : Shared) (Q : Flow → Shared → Prop) (f : Flow) (s₂ : Shared) : Prop :=
  match f with
  | .ret v => Q (.ret v) s₂
  | .brk => Q .next s₂
  | _ => WEnd h₀ L J n s s₂
def WhileAt (prog : Program) (w : World) (A : Around) (test : PySem.Expr) (body : List Stmt) (pos : Pos) (env : Env) (Q : Flow → Shared → Prop) (E : Value → Shared → Prop) (s : Shared) : Prop := wpAny (model prog w) A (exec (.While test body [] pos) env) Q E s
theorem while_stop {test : PySem.Expr} {body : List Stmt} {pos : Pos} (h : WhileAt prog w A test body pos env Q E s) : wpAny (model prog w) A (exec (.While test body [] pos) env) Q E s := h
theorem while_J {test : PySem.Expr} {body : List Stmt} {pos : Pos} {m₀ : Str → Option Value} {news : List (Addr × Obj)} (Jf : List (Addr × Obj) → Nat → (Str → Option Value) → List (Addr × Obj) → Prop) (n₀ : Nat)
    (F : Fr h₀ L s.heap m₀) (N : News h₀ L s.heap news) (hJ : Jf news n₀ m₀ news)
    (turn : ∀ n m₁ nx h tk, Jf news n m₁ nx → Fr h₀ L h m₁ → News h₀ L h nx →
      wpAny (model prog w) A (isTrue test env (eval test env)) (fun b s₂ => if b = true then wpAny (model prog w) A (execs body env) (WPost h₀ L (Jf news) n s Q) (fun _ _ => False) s₂ else Q .next s₂) (fun _ _ => False) { s with heap := h, toks := tk }) :
    WhileAt prog w A test body pos env Q E s := by
  unfold WhileAt
  refine wpAny_While (codeAny_whileLoop (fun n s' => ∃ h₁ tk₁ m₁ nx, s' = { s with heap := h₁, toks := tk₁ } ∧ Fr h₀ L h₁ m₁ ∧ News h₀ L h₁ nx ∧ Jf news n m₁ nx) ?_ n₀ ⟨s.heap, s.toks, m₀, news, rfl, F, N, hJ⟩)
  rintro n s' ⟨h₁, tk₁, m₁, nx, rfl, F₁, N₁, J₁⟩
  refine wpAny_mono (turn n m₁ nx h₁ tk₁ J₁ F₁ N₁) (fun b s₂ h₂ => ?_) fun _ _ e => e.elim
  cases b with
  | false =>
    simp only [Bool.false_eq_true, if_false] at h₂ ⊢
    exact wpAny_execs_nil h₂
  | true =>
    simp only [if_true] at h₂ ⊢
    refine wpAny_mono h₂ (fun f s₃ h₃ => ?_) fun _ _ e => e.elim
    cases f with
    | next =>
      obtain ⟨h', tk, m₂, nx₂, n', rfl, F₂, N₂, hn, J₂⟩ := h₃
      exact ⟨n', hn, h', tk, m₂, nx₂, rfl, F₂, N₂, J₂⟩
    | cont =>
      obtain ⟨h', tk, m₂, nx₂, n', rfl, F₂, N₂, hn, J₂⟩ := h₃
      exact ⟨n', hn, h', tk, m₂, nx₂, rfl, F₂, N₂, J₂⟩
    | brk => exact h₃
    | ret v => exact h₃
end
end Mine

-- A NESTED DEF (its object in the ledger) ENTERED
namespace Mine
open PySem.Calls
section
variable {prog : Program} {w : World} {A A₀ : Around} {E : Value → Shared → Prop} {s : Shared} {K : Frag} {L : Addr} {h₀ base : Heap} {m mg mb : Str → Option Value} {p : Program} {loose : List Str} {mean : ExcName → Option Value}
theorem enter_nest (l : List (Str × Value)) {env : Env} {outer : List Env} {R : Result → Shared → Prop} {name qual : Str} {params : Arguments} {body : List Stmt} {scope : Scope} {clos : List (Str × Addr)} {dV kV doc pm cdv ct : Value} {an : Option Addr} {fo : Obj} {f : Addr} {args : Args} {binds : List (Str × Value)} {news : List (Addr × Obj)}
    (B : Below A₀ base outer h₀) (F : Fr h₀ L s.heap m) (X₀ : K.In h₀) (N : News h₀ L s.heap news) (T : Top p loose mean mg mb h₀) (hA : A.frames = some (env :: outer)) (hf : env.frame = some L) (hke : env.scope.kind = .function)
    (ho : s.heap.get? f = some fo) (hd : fo.data = .func (fnX name qual params body scope clos dV kV doc pm an cdv ct)) (hcd : s.heap.CodeRec cdv qual) (hroom : A.depth < recursionLimit)
    (hbind : BindsTo s (fnX name qual params body scope clos dV kV doc pm an cdv ct) args binds) (hl : binds.reverse = l) (hloc : ∀ y ∈ binds, scope.names.lookup y.1 = some .local)
    (h : ∀ g L' h₁, (∀ b o, g.get? b = some o → s.heap.get? b = some o) → Keeps (news.map (·.1)) s.heap g → (∀ b, s.heap.objs.size ≤ b → g.get? b = none) → Fr g L' h₁ (mlist l) → News g L' h₁ news → Below A base (env :: outer) g → K.In g → Top p loose mean mg mb g →
      wpAny (model prog w) (A.deeper (envX qual scope L' f cdv clos)) (execs body (envX qual scope L' f cdv clos))
        (fun fl s' => R (.ok (.ret (match fl with | .ret v => v | _ => .none))) s') (fun _ _ => False)
        { s with heap := h₁, toks := s.toks + binds.length })
    (hco : scope.isCoroutine = false) (hgen : scope.isGenerator = false) (hk : scope.kind = .function)
    (hcell : ∀ x ∈ scope.names, x.2 ≠ .cell) : codeAny (model prog w) A (.call (.ref f) args) R s := by
  obtain ⟨FG, BG, st, _⟩ := groundX (R := R) B F N hA hf hke
  refine codeAny_call_def (fd := fnX name qual params body scope clos dV kV doc pm an cdv ct) (body := body) (binds := binds) hroom ho hd (T.nolimit.keeps F.keep) hcd rfl hbind hcell hloc (fun h₁ hns hk₁ => ?_) hco hgen hk
  refine wpAny_mono (h (hideAll s.heap (news.map (·.1))) s.heap.objs.size h₁ (fun b o e => of_hideAll _ e) (fun b o e n => hideAll_get _ e n) (fun b hb => Heap.get?_none_of_le (by rw [hideAll_size]; exact hb)) (Fr.named l ⟨hns, fun b o e => hk₁ b o (of_hideAll _ e), Nat.le_of_eq (hideAll_size _ _)⟩ hl rfl)
    (fun p hp => ⟨hk₁ _ _ (N p hp).1, Nat.ne_of_lt (Heap.lt_size (N p hp).1), hideAll_none _ (List.mem_map_of_mem hp)⟩) BG (X₀.keeps fun b o e => st b o e) (T.keeps fun b o e => st b o e)) (fun fl s' hl => hl) fun _ _ y => y.elim
end
end Mine
namespace Mine
open PySem.Calls
section
variable {prog : Program} {w : World} {A A₀ : Around} {E : Value → Shared → Prop} {s : Shared} {K : Frag} {L : Addr} {h₀ base : Heap} {m mg mb : Str → Option Value} {p : Program} {loose : List Str} {mean : ExcName → Option Value}
theorem enter_cells {env : Env} {outer : List Env} {R : Result → Shared → Prop} {name qual : Str} {params : Arguments} {body : List Stmt} {scope : Scope} {dV kV doc pm cdv ct oc : Value} {an od : Option Addr} {osl : Array (Option Value)} {f : Addr} {args : Args} {binds : List (Str × Value)} {news : List (Addr × Obj)}
    (B : Below A₀ base outer h₀) (F : Fr h₀ L s.heap m) (X₀ : K.In h₀) (N : News h₀ L s.heap news) (T : Top p loose mean mg mb h₀) (hA : A.frames = some (env :: outer)) (hf : env.frame = some L) (hke : env.scope.kind = .function)
    (ho : K.lookup f = some ⟨oc, od, .func (fnOf name qual params body scope dV kV doc pm an cdv ct), osl⟩) (hcd : codeIn K cdv qual = true) (hroom : A.depth < recursionLimit)
    (hbind : BindsTo s (fnOf name qual params body scope dV kV doc pm an cdv ct) args binds) (hkind : (binds.all fun y => scope.names.lookup y.1 == some .local || scope.names.lookup y.1 == some .cell) = true)
    (hnd : ((cellsFrom 0 scope.names []).map (·.1)).Nodup)
    (h : ∀ g L' h₁ tk cells, (∀ b o, g.get? b = some o → s.heap.get? b = some o) → Keeps (news.map (·.1)) s.heap g → (∀ b, s.heap.objs.size ≤ b → g.get? b = none) → Fr g L' h₁ (bindL (envOfC qual scope L' f cdv).kindOf binds fun _ => none) → News g L' h₁ (cells ++ news) →
      CellsAre (bindC (envOfC qual scope L' f cdv).kindOf binds fun _ => none) (cellsFrom (L' + 1) scope.names []) cells → Below A base (env :: outer) g → K.In g → Top p loose mean mg mb g → (∀ p ∈ news, p.1 < L') →
      wpAny (model prog w) (A.deeper (envOfC qual scope L' f cdv)) (execs body (envOfC qual scope L' f cdv))
        (fun fl s' => R (.ok (.ret (match fl with | .ret v => v | _ => .none))) s') (fun _ _ => False)
        { s with heap := h₁, toks := tk })
    (hco : scope.isCoroutine = false) (hgen : scope.isGenerator = false) (hk : scope.kind = .function) : codeAny (model prog w) A (.call (.ref f) args) R s := by
  obtain ⟨FG, BG, st, _⟩ := groundX (R := R) B F N hA hf hke
  refine codeAny_call_function (fd := fnOf name qual params body scope dV kV doc pm an cdv ct) hroom ((X₀.keeps F.keep) _ _ ho) rfl hco hgen rfl (codeRec_of (X₀.keeps F.keep) hcd) (hbind _ _ _ _ ?_)
  refine wpAny_newFunctionEnv_cells hk (kindsX hkind _) fun env' he s' x => ?_
  subst he
  refine ⟨(T.nolimit.keeps F.keep).keeps x.toInCall.keep, codeAny_func ?_⟩
  obtain ⟨h₁, tk, rfl, _⟩ := x.done
  have hk₁ := x.toInCall.keep
  obtain ⟨cells, NC, Y⟩ := Cl.news (h₀ := s.heap) (Nat.le_refl _) fun n c hm => ⟨x.cell n c (lookup_of_mem_nodup (cellsFrom_names scope.names 0 (s.heap.objs.size + 1) [] [] rfl ▸ hnd) hm), x.above n c hm⟩
  refine wpAny_mono (h (hideAll s.heap (news.map (·.1))) s.heap.objs.size h₁ tk cells (fun b o e => of_hideAll _ e) (fun b o e n => hideAll_get _ e n) (fun b hb => Heap.get?_none_of_le (by rw [hideAll_size]; exact hb)) ⟨x.toInCall.ns, fun b o e => hk₁ b o (of_hideAll _ e), Nat.le_of_eq (hideAll_size _ _)⟩ (fun p hp => ?_) Y BG (X₀.keeps fun b o e => st b o e) (T.keeps fun b o e => st b o e) (fun p hp => Heap.lt_size (N p hp).1)) (fun fl s' hl => hl) fun _ _ y => y.elim
  rcases List.mem_append.mp hp with hp | hp
  · refine ⟨(NC p hp).1, (NC p hp).2.1, ?_⟩
    cases q : (hideAll s.heap (news.map (·.1))).get? p.1 with
    | none => rfl
    | some o => have := of_hideAll _ q; rw [(NC p hp).2.2] at this; cases this
  · exact ⟨hk₁ _ _ (N p hp).1, Nat.ne_of_lt (Heap.lt_size (N p hp).1), hideAll_none _ (List.mem_map_of_mem hp)⟩
end
end Mine

-- LISTS OF ANYTHING IN THE LEDGER
namespace Mine
open PySem.Calls
section
variable {prog : Program} {w : World} {A : Around} {E : Value → Shared → Prop} {s : Shared} {h₀ : Heap} {L l : Addr} {m : Str → Option Value} {news news' : List (Addr × Obj)} {vs : List Value} {k : Nat}
theorem isl (N : News h₀ L s.heap news) (hm : (l, W.listOf vs.toArray k) ∈ news) : s.heap.IsList l vs.toArray := ⟨_, (N _ hm).1, rfl, k, rfl⟩
theorem truthy_L {Q : Bool → Shared → Prop} (N : News h₀ L s.heap news) (hm : (l, W.listOf vs.toArray k) ∈ news) (hz : vs.length ≤ 100000) (h : ∀ tk, Q (!vs.isEmpty) { s with toks := tk }) : wpAny (model prog w) A (truthy (.ref l)) Q E s := by
  refine wpAny_truthy_list (isl N hm) (by rw [List.size_toArray]; omega) ?_
  have e : (!vs.toArray.isEmpty) = !vs.isEmpty := by cases vs <;> rfl
  rw [e]; exact h _
theorem len_L {Q : Value → Shared → Prop} (N : News h₀ L s.heap news) (hm : (l, W.listOf vs.toArray k) ∈ news) (hz : vs.length ≤ 100000) (h : ∀ t tk, Q (.int (vs.length : Int) t) { s with toks := tk }) : wpAny (model prog w) A (call (.builtin "len") [.ref l]) Q E s :=
  len_list (isl N hm) (by rw [List.size_toArray]; omega) (by have e : vs.toArray.size = vs.length := List.size_toArray ..
                                                             rw [e]; exact h _ _)
theorem item_L {value slice : PySem.Expr} {i : Int} {u : Tok} {v : Value} {Q : Value → Shared → Prop} (N : News h₀ L s.heap news) (hm : (l, W.listOf vs.toArray k) ∈ news) (h0 : 0 ≤ i) (hz : i ≤ 100000) (hx : vs[i.toNat]? = some v) (h : Q v s)
    (hs : subscripted slice false (.ref l) (.int i u) = operate [.ref l, .int i u] (getItem (.ref l) (.int i u)) := by with_unfolding_all rfl) :
    wpAny (model prog w) A (subscriptTail value slice (.ref l) (.int i u)) Q E s :=
  tail_any (isl N hm).typeIs slot_list_getitem.lookup (wpAny_getItem_list (isl N hm) h0 (by omega) (x := v) (by simpa using hx) h) hs
theorem Upd.new {d : Addr} {o o' : Obj} (U : Upd d o o' news news') : (d, o) ∈ news := by
  obtain ⟨pre, post, rfl, rfl, a, b⟩ := U.split
  exact List.mem_append.mpr (.inr (.head _))
theorem upd_at {d : Addr} {o o' : Obj} {h h' : Heap} (U : Upd d o o' news news') (F : Fr h₀ L h m) (N : News h₀ L h news) (hs : Heap.SameBut d h h') (ho : h'.get? d = some o') : Fr h₀ L h' m ∧ News h₀ L h' news' := by
  obtain ⟨pre, post, rfl, rfl, a, b⟩ := U.split
  have z := N (d, o) (List.mem_append.mpr (.inr (.head _)))
  exact ⟨F.change hs z.2.1 z.2.2, news_set N a b hs ho⟩
theorem pop0_L {v : Value} {t : Tok} {Q : Value → Shared → Prop} (F : Fr h₀ L s.heap m) (N : News h₀ L s.heap news) (U : Upd l (W.listOf (v :: vs).toArray k) (W.listOf vs.toArray (k + 1)) news news') (hz : vs.length ≤ 100000)
    (h : ∀ h', Fr h₀ L h' m → News h₀ L h' news' → Q v { s with heap := h' }) : wpAny (model prog w) A (call (.builtin "list.pop") [.ref l, .int 0 t]) Q E s := by
  have hm := (N _ (Upd.new U)).1
  refine call_meets PySem.F.slot_list_pop ⟨_, hm, rfl⟩ PySem.F.entry_list_pop (PySem.F.args_list_pop_2 _ _) (PySem.MeetsSeq.list_pop_at l (v :: vs).toArray k 0 t 0 v (by decide) (by unfold seqIndex?; simp) (by simp) (by rw [List.size_toArray, List.length_cons, sizeLine_eq]; omega)) ⟨hm, ?_⟩
  have e : Obj.mapSeq (fun xs => xs.eraseIdxIfInBounds 0) (W.listOf (v :: vs).toArray k) = W.listOf vs.toArray (k + 1) := by
    have e1 : (v :: vs).toArray.eraseIdxIfInBounds 0 = vs.toArray := by simp [Array.eraseIdxIfInBounds]
    show Obj.mk _ _ (.seq _ _) _ = _
    dsimp only
    have e2 : (((v :: vs).toArray.eraseIdxIfInBounds 0).size == (v :: vs).toArray.size) = false := by rw [e1]; simp
    rw [e2, e1]; rfl
  obtain ⟨F', N'⟩ := upd_at (h' := s.heap.update l (Obj.mapSeq fun xs => xs.eraseIdxIfInBounds 0)) U F N (Heap.SameBut.update ..) (by rw [Heap.get?_update_self _ hm (by rw [e]; rfl), e])
  exact h _ F' N'
theorem getMethod_list {nm : Str} {pl : Sem Bool} {Q : Value × List Value → Shared → Prop} (N : News h₀ L s.heap news) (hm : (l, W.listOf vs.toArray k) ∈ news) (hn : nm = "pop") (h : Q (.builtin "list.pop", [.ref l]) s) : wpAny (model prog w) A (getMethod (.ref l) nm pl) Q E s := by
  subst hn
  exact getMethod_pop_N N hm h rfl rfl
theorem mapSeq_to {f : Array Value → Array Value} {xs ys : List Value} {k : Nat} (h : f xs.toArray = ys.toArray) : ∃ k', Obj.mapSeq f (W.listOf xs.toArray k) = W.listOf ys.toArray k' :=
  ⟨if (f xs.toArray).size == xs.toArray.size then k else k + 1, by rw [← h]; rfl⟩
theorem setItem_all {l sl D : Addr} {xs ys : List Value} {k kd : Nat} {Q : Unit → Shared → Prop} (hl : s.heap.get? l = some (W.listOf xs.toArray k)) (hsl : s.heap.IsSliceOf sl .none .none .none) (hD : s.heap.get? D = some (W.listOf ys.toArray kd)) (hne : l ≠ D) (hz : xs.length ≤ 1000) (hz2 : ys.length ≤ 1000)
    (h : ∀ h' k', Heap.SameBut l s.heap h' → h'.get? l = some (W.listOf ys.toArray k') → Q () { s with heap := h' }) : wpAny (model prog w) A (setItem (.ref l) (.ref sl) (.ref D)) Q E s := by
  obtain ⟨os, hos, hcs, hds⟩ := id hsl
  have hTs : s.TypeIs (.ref sl) "slice" := ⟨os, hos, hcs⟩
  have hTl : s.TypeIs (.ref l) "list" := ⟨_, hl, rfl⟩
  have hTD : s.TypeIs (.ref D) "list" := ⟨_, hD, rfl⟩
  have hIl : s.heap.IsList l xs.toArray := ⟨_, hl, rfl, k, rfl⟩
  unfold setItem
  try with_reducible refine wpAny_holding ?_
  first | refine wpAny_bind (wpAny_pure ?_) | skip
  refine wpAny_bind (wpAny_sequenceKey hIl.typeIs (by decide) ?_)
  refine wpAny_bind (wpAny_callSpecial?_slot (name := Str.ofString "__setitem__") hIl.typeIs slot_list_setitem
    (wpAny_call_entry slot_list_setitem hIl.typeIs entry_list_setitem ?_ (args_list_setitem _ _ _)))
  show wpAny _ _ (Builtin.List.listSubscript? (.ref sl) >>= _) _ _ s
  refine wpAny_bind ?_
  unfold Builtin.List.listSubscript?
  refine wpAny_bind (wpAny_specialOf hTs slice_no_index ?_)
  simp only [Option.isNone_none, if_true]
  refine wpAny_pure ?_
  show wpAny _ _ (typeOf (.ref sl) >>= _) _ _ s
  refine wpAny_bind (wpAny_typeOf hTs ?_)
  rw [if_neg (by decide)]
  rw [listSliceParts_eq]
  refine wpAny_bind (wpAny_bind (wpAny_field hos hds (x := .none) rfl (wpAny_bind (wpAny_listPart .none ?_))))
  rw [if_neg (by exact Bool.false_ne_true)]
  refine wpAny_bind (wpAny_field hos hds (x := .none) rfl (wpAny_bind (wpAny_listPart .none ?_)))
  refine wpAny_bind (wpAny_field hos hds (x := .none) rfl (wpAny_bind (wpAny_listPart .none (wpAny_pure ?_))))
  have e0 : Builtin.List.listSameRef (.ref l) (.ref D) = false := by
    show (l == D) = false
    simpa using hne
  simp only [e0, Bool.false_eq_true, if_false]
  refine wpAny_bind ?_
  unfold Builtin.List.listAllItems
  refine wpAny_bind (wpAny_typeOf hTD ?_)
  rw [if_pos (by decide)]
  unfold Builtin.List.listItems
  refine wpAny_bind (wpAny_seqItems hD rfl (wpAny_pure ?_))
  refine wpAny_bind (wpAny_bind (wpAny_seqItems hl rfl (wpAny_pure ?_)))
  refine wpAny_bind (wpAny_of_eq (sliceIndices_raw none none none xs.toArray.size (by decide)) ?_)
  have hb : sliceBounds none none none xs.toArray.size = (0, (xs.toArray.size : Int), 1) := rfl
  rw [hb]
  dsimp only
  rw [if_pos (by decide)]
  refine wpAny_bind (wpAny_rule ?_)
  rw [if_neg (by unfold Builtin.List.listTooLong; rw [List.size_toArray, List.size_toArray, sizeLine_eq]; simp; omega)]
  have e1 : (xs.toArray.extract 0 (Int.toNat 0) ++ ys.toArray ++ xs.toArray.extract (max 0 (xs.toArray.size : Int)).toNat xs.toArray.size) = ys.toArray := by
    rw [show (max 0 (xs.toArray.size : Int)).toNat = xs.toArray.size by omega, show Int.toNat 0 = 0 from rfl]
    simp
  obtain ⟨k', e2⟩ := mapSeq_to (k := k) (f := fun zs => zs.extract 0 (Int.toNat 0) ++ ys.toArray ++ zs.extract (max 0 (xs.toArray.size : Int)).toNat zs.size) (xs := xs) (ys := ys) e1
  refine wpAny_bind (m := Builtin.List.listUpdate _ _) (wpAny_updateSeq hl rfl ?_ (by rw [List.size_toArray, sizeLine_eq]; omega) (by show (xs.toArray.extract 0 (Int.toNat 0) ++ ys.toArray ++ xs.toArray.extract (max 0 (xs.toArray.size : Int)).toNat xs.toArray.size).size ≤ _; rw [e1, List.size_toArray, sizeLine_eq]; omega))
  refine wpAny_bind (wpAny_letGo ?_)
  exact wpAny_pure ⟨_, rfl, wpAny_pure (h _ k' (Heap.SameBut.update ..) (by rw [Heap.get?_update_self _ hl (by rw [e2]; rfl), e2]))⟩
theorem setItem_all_K {H : Heap} {l D : Addr} {xs ys : List Value} {k kd : Nat} {Q : Unit → Shared → Prop} (F : Fr h₀ L H m) (N : News h₀ L H news) (hs : s.heap = H.push { cls := .type "slice", data := .fields #[.none, .none, .none] }) (ml : (l, W.listOf xs.toArray k) ∈ news) (mD : (D, W.listOf ys.toArray kd) ∈ news) (hne : l ≠ D) (hz : xs.length ≤ 1000) (hz2 : ys.length ≤ 1000)
    (h : ∀ h' k', ∃ news', UpdS [(l, W.listOf ys.toArray k')] news news' ∧ (Fr h₀ L h' m → News h₀ L h' news' → Q () { s with heap := h' })) : wpAny (model prog w) A (setItem (.ref l) (.ref H.objs.size) (.ref D)) Q E s := by
  have up : ∀ b o, H.get? b = some o → s.heap.get? b = some o := fun b o e => by rw [hs]; exact Heap.get?_push_of_some _ e
  refine setItem_all (up _ _ (N _ ml).1) (by rw [hs]; exact Heap.IsSliceOf.new ..) (up _ _ (N _ mD).1) hne hz hz2 fun h' k' hb hl' => ?_
  obtain ⟨news', u, q⟩ := h h' k'
  have z := N _ ml
  have F' : Fr h₀ L h' m := Fr.change (F.keeps up) hb z.2.1 z.2.2
  refine q F' (News.updS u (N.grown up) (fun b o e n => hb.extBut b o (fun q => n (by rw [q]; exact .head _)) e) (fun p hp => ?_))
  rw [List.mem_singleton.mp hp]
  exact ⟨hl', z.2⟩
end
end Mine
namespace Mine
section
variable {M : Model} {A : Around} {E : Value → Shared → Prop} {s : Shared} {K : Frag} {h₀ : Heap} {L x C f : Addr} {m : Str → Option Value} {ox : Obj} {od : Option Obj} {i : Value}
theorem delItem_own {Q : Unit → Shared → Prop} (F : Fr h₀ L s.heap m) (X₀ : K.In h₀) (I : PySem.W.InstAt s.heap x ox C od) (hq : noSeq K C = true) (hs : findIn K (.ref C) "__delitem__" = some (some (.ref f))) (hf : isFn K (.ref f) = true)
    (h : wpAny M A (call (.ref f) [.ref x, i]) (fun _ s' => Q () s') E s) : wpAny M A (delItem (.ref x) i) Q E s := by
  have X := X₀.keeps F.keep
  unfold delItem sequenceKey
  refine wpAny_holding (wpAny_bind (wpAny_bind (I.type.here ?_)))
  refine wpAny_bind ((anyM_none X hq).here ?_)
  rw [if_pos (show (!false) = true from rfl)]
  exact wpAny_pure (wpAny_bind (special_fn X I hs (beq_iff_eq.mp hf) (wpAny_mono h (fun _ _ z => wpAny_pure z) fun _ _ z => z)))
end
end Mine
namespace Mine
theorem ite_yes {c : Prop} [Decidable c] {P R : Prop} (h : c) (k : P) : if c then P else R := by rw [if_pos h]; exact k
theorem ite_no {c : Prop} [Decidable c] {P R : Prop} (h : ¬ c) (k : R) : if c then P else R := by rw [if_neg h]; exact k
theorem ite_noB {b : Bool} {P R : Prop} (h : b = false) (k : R) : if b = true then P else R := by rw [h, if_neg (by decide)]; exact k
end Mine
namespace Mine
inductive StrsAre : List Value → List Str → Prop where
  | nil : StrsAre [] []
  | cons {x : Str} {t : Tok} {vs : List Value} {xs : List Str} : StrsAre vs xs → StrsAre (.str x t :: vs) (x :: xs)
theorem StrsAre.length {vs : List Value} {xs : List Str} (h : StrsAre vs xs) : vs.length = xs.length := by
  induction h with
  | nil => rfl
  | cons _ ih => rw [List.length_cons, List.length_cons, ih]
theorem StrsAre.snoc {vs : List Value} {xs : List Str} {x : Str} {t : Tok} (h : StrsAre vs xs) : StrsAre (vs ++ [.str x t]) (xs ++ [x]) := by
  induction h with
  | nil => exact .cons .nil
  | cons _ ih => exact .cons ih
theorem StrsAre.append {vs us : List Value} {xs ys : List Str} (h : StrsAre vs xs) (k : StrsAre us ys) : StrsAre (vs ++ us) (xs ++ ys) := by
  induction h with
  | nil => exact k
  | cons _ ih => exact .cons ih
theorem StrsAre.get {vs : List Value} {xs : List Str} (h : StrsAre vs xs) : ∀ {i : Nat} {v : Value}, vs[i]? = some v → ∃ x t, v = .str x t ∧ xs[i]? = some x := by
  induction h with
  | nil => intro i v h; simp at h
  | cons _ ih =>
    intro i v h
    cases i with
    | zero => simp at h; exact ⟨_, _, h.symm, rfl⟩
    | succ i => exact ih (by simpa using h)
theorem StrsAre.toP {vs : List Value} {xs : List Str} (h : StrsAre vs xs) : PyProof.Rows.StrsAre vs xs := by
  induction h with
  | nil => exact .nil
  | cons _ ih => exact .cons _ _ ih
theorem StrsAre.ofP {vs : List Value} {xs : List Str} (h : PyProof.Rows.StrsAre vs xs) : StrsAre vs xs := by
  induction h with
  | nil => exact .nil
  | cons _ _ _ ih => exact .cons ih
section
variable {prog : Program} {w : World} {A : Around} {E : Value → Shared → Prop} {s : Shared} {h₀ : Heap} {L : Addr} {m : Str → Option Value} {news : List (Addr × Obj)}
theorem StrsAre.vals {vs : List Value} {ss : List Str} (h : StrsAre vs ss) : ∃ l : List (Str × Tok), strValues l = vs ∧ l.map (·.1) = ss := by
  induction h with
  | nil => exact ⟨[], rfl, rfl⟩
  | @cons x t vs xs _ ih =>
    obtain ⟨l, rfl, rfl⟩ := ih
    exact ⟨(x, t) :: l, rfl, rfl⟩
theorem join_L {D : Addr} {vs : List Value} {ss : List Str} {k : Nat} {x : Str} {t : Tok} {Q : Value → Shared → Prop} (N : News h₀ L s.heap news) (hm : (D, W.listOf vs.toArray k) ∈ news) (hs : StrsAre vs ss) (hz : (ss.map (·.length)).sum + ss.length * x.length ≤ 100000)
    (h : ∀ t' tk, Q (.str (Txt.join x ss) t') { s with toks := tk }) : wpAny (model prog w) A (call (.builtin "str.join") [.str x t, .ref D]) Q E s := by
  obtain ⟨l, rfl, e⟩ := hs.vals
  exact SC.join (isl N hm) e (joinOk_of (by omega)) h
theorem join_flat : ∀ (l : List (List Nat)), Txt.join "" (l.map fun x => (⟨x.toArray⟩ : Str)) = ⟨l.flatten.toArray⟩
  | [] => rfl
  | [x] => by rw [List.flatten_cons, List.flatten_nil, List.append_nil]; rfl
  | x :: y :: r => by
    have h := join_flat (y :: r)
    have e : Txt.join "" ((x :: y :: r).map fun x => (⟨x.toArray⟩ : Str)) = (⟨x.toArray⟩ : Str) ++ "" ++ Txt.join "" ((y :: r).map fun x => (⟨x.toArray⟩ : Str)) := (StrLaws.glued_eq_join _ _).trans (congrArg _ (StrLaws.glued_eq_join _ _).symm)
    rw [e, h]
    refine Str.ext' ?_
    rw [Str.cps_append, Str.cps_append, List.flatten_cons]
    show x.toArray ++ #[] ++ _ = _
    rw [Array.append_empty, List.append_toArray]; rfl
end
end Mine

-- COMPREHENSIONS BY AN INVARIANT
namespace Mine
open PyProof.Rows.LCg
inductive CmpEnd (h₀ : Heap) (L : Addr) (m : Str → Option Value) (s₁ : Shared) (I : Addr) (oI : Obj) (C : Addr) (oC : Obj) (D : Addr) (oD : Obj) (rest : Value → List (Addr × Obj) → Prop) (y : Value) (s₂ : Shared) : Prop where
  | mk h' tk news' (h0 : s₂ = { s₁ with heap := h', toks := tk }) (h1 : Fr h₀ L h' m) (h2 : News h₀ L h' ((I, oI) :: (C, oC) :: (D, oD) :: news')) (h3 : (∀ p ∈ news', p.1 ≠ I ∧ p.1 ≠ C ∧ p.1 ≠ D)) (h4 : rest y news') : CmpEnd h₀ L m s₁ I oI C oC D oD rest y s₂
theorem CmpEnd.intro {h₀ : Heap} {L I C D : Addr} {m : Str → Option Value} {s₁ : Shared} {oI oC oD : Obj} {rest : Value → List (Addr × Obj) → Prop} {y : Value} {h' : Heap} {tk : Nat} {all : List (Addr × Obj)} (news' : List (Addr × Obj))
    (F : Fr h₀ L h' m) (N : News h₀ L h' all) (sub : ∀ p ∈ (I, oI) :: (C, oC) :: (D, oD) :: news', p ∈ all) (off : ∀ p ∈ news', p.1 ≠ I ∧ p.1 ≠ C ∧ p.1 ≠ D) (r : rest y news') :
    CmpEnd h₀ L m s₁ I oI C oC D oD rest y { s₁ with heap := h', toks := tk } := ⟨h', tk, news', rfl, F, fun p hp => N p (sub p hp), off, r⟩
theorem CmpEnd.to {h₀ : Heap} {L I C D : Addr} {m : Str → Option Value} {s₁ s₂ : Shared} {oI oC oD : Obj} {rest rest' : Value → List (Addr × Obj) → Prop} {S : List (Addr × Obj) → Prop} {y : Value}
    (h : CmpEnd h₀ L m s₁ I oI C oC D oD rest y s₂) (k : ∀ nw, rest y nw → S nw ∧ rest' y nw) : CompEnd h₀ L m s₁ I oI C oC D oD S rest' y s₂ := by
  obtain ⟨h', tk, nw, rfl, F, N, off, r⟩ := h
  exact ⟨h', tk, nw, rfl, F, N, Off3.of off, (k _ r).1, (k _ r).2⟩
section
variable {prog : Program} {w : World} {A : Around} {E : Value → Shared → Prop} {s : Shared} {h₀ : Heap} {L : Addr} {m : Str → Option Value} {env : Env}
theorem restU {elt : PySem.Expr} {x : Str} {scope : Scope} {cl : List (Str × Addr)} {S : List (Addr × Obj) → Prop} {P : Nat → Value → Prop} {Fin : List Value → List (Addr × Obj) → Prop} {n : Nat} (J : Nat → List Value → List (Addr × Obj) → Prop)
    (hS : ∀ i ys nw, J i ys nw → S nw) (fin : ∀ ys nw, J n ys nw → Fin ys nw)
    (step : ∀ i ys nw v I oI C oC D m₂ h tk (E' : Value → Shared → Prop), i < n → J i ys nw → P i v → NsObj oC m₂ → m₂ x = some v → Fr h₀ L h m → News h₀ L h ((I, oI) :: (C, oC) :: (D, lst ys) :: nw) → (∀ p ∈ nw, p.1 ≠ I ∧ p.1 ≠ C ∧ p.1 ≠ D) → ((@Ne Nat I C) ∧ (@Ne Nat I D) ∧ (@Ne Nat C D)) →
      wpAny (model prog w) A (eval elt (compEnvC scope cl C env)) (CmpEnd h₀ L m { s with heap := h, toks := tk } I oI C oC D (lst ys) (fun y nw' => J (i + 1) (ys ++ [y]) nw')) E' { s with heap := h, toks := tk }) :
    ∀ k i ys nw, i + k = n → J i ys nw → CompRest prog w A h₀ L m env elt x scope cl s S P Fin k i ys nw
  | 0, i, ys, nw, e, hj => CompRest.zero (fin ys nw (by rw [Nat.add_zero] at e; exact e ▸ hj))
  | k + 1, i, ys, nw, e, hj => CompRest.succ fun v I oI C oC D m₂ h tk E' hv hC hx F N off ne =>
    wpAny_mono (step i ys nw v I oI C oC D m₂ h tk E' (by omega) hj hv hC hx F N off.mem ne) (fun y s₂ q => q.to fun nw' r => ⟨hS _ _ _ r, restU J hS fin step k (i + 1) _ _ (by omega) r⟩) fun _ _ e => e
theorem restT {ct elt : PySem.Expr} {x : Str} {scope : Scope} {cl : List (Str × Addr)} {S : List (Addr × Obj) → Prop} {P : Nat → Value → Prop} {Fin : List Value → List (Addr × Obj) → Prop} {n : Nat} (J : Nat → List Value → List (Addr × Obj) → Prop)
    (hS : ∀ i ys nw, J i ys nw → S nw) (fin : ∀ ys nw, J n ys nw → Fin ys nw)
    (step : ∀ i ys nw v I oI C oC D m₂ h tk (E' : Value → Shared → Prop), i < n → J i ys nw → P i v → NsObj oC m₂ → m₂ x = some v → Fr h₀ L h m → News h₀ L h ((I, oI) :: (C, oC) :: (D, lst ys) :: nw) → (∀ p ∈ nw, p.1 ≠ I ∧ p.1 ≠ C ∧ p.1 ≠ D) → ((@Ne Nat I C) ∧ (@Ne Nat I D) ∧ (@Ne Nat C D)) →
      wpAny (model prog w) A (isTrue ct (compEnvC scope cl C env) (eval ct (compEnvC scope cl C env))) (fun ok s' => if ok = true then
        wpAny (model prog w) A (eval elt (compEnvC scope cl C env)) (CmpEnd h₀ L m { s with heap := h, toks := tk } I oI C oC D (lst ys) (fun y nw' => J (i + 1) (ys ++ [y]) nw')) E' s'
        else CmpEnd h₀ L m { s with heap := h, toks := tk } I oI C oC D (lst ys) (fun _ nw' => J (i + 1) ys nw') Value.none s') E' { s with heap := h, toks := tk }) :
    ∀ k i ys nw, i + k = n → J i ys nw → LCt.CompRestT prog w A h₀ L m env ct elt x scope cl s S P Fin k i ys nw
  | 0, i, ys, nw, e, hj => LCt.CompRestT.zero (fin ys nw (by rw [Nat.add_zero] at e; exact e ▸ hj))
  | k + 1, i, ys, nw, e, hj => LCt.CompRestT.succ fun v I oI C oC D m₂ h tk E' hv hC hx F N off ne =>
    wpAny_mono (step i ys nw v I oI C oC D m₂ h tk E' (by omega) hj hv hC hx F N off.mem ne) (fun ok s₂ q => by
      cases ok with
      | true =>
        simp only [if_true] at q ⊢
        exact wpAny_mono q (fun y s₂ q => q.to fun nw' r => ⟨hS _ _ _ r, restT J hS fin step k (i + 1) _ _ (by omega) r⟩) fun _ _ e => e
      | false =>
        simp only [Bool.false_eq_true, if_false] at q ⊢
        exact q.to fun nw' r => ⟨hS _ _ _ r, restT J hS fin step k (i + 1) _ _ (by omega) r⟩) fun _ _ e => e
-- over a text, sign by sign
theorem str_st {I : Addr} {cn : String} {xt : Str} {tx : Tok} : ∀ i (h h' : Heap) (o : Obj) (nw : List (Addr × Obj)), h.IsStrIter I cn xt tx i → h.get? I = some o → h'.get? I = some o → (∀ b o, h₀.get? b = some o → h'.get? b = some o) → News h₀ L h' nw → True → h'.IsStrIter I cn xt tx i :=
  fun i h h' o nw st e e' _ _ _ => by obtain ⟨o', q, r⟩ := st; rw [e] at q; cases q; exact ⟨o, e', r⟩
theorem comp_str {elt iter : PySem.Expr} {x : Str} {px : Pos} {scope : Scope} {cl : List (Str × Addr)} {pos : Pos} {Q : Value → Shared → Prop}
    (hclos : closureFor scope env = pure cl) (hcell : ∀ y ∈ scope.names, y.2 ≠ .cell) (hkind : scope.kind = .function)
    (hnames : ∀ y ∈ scope.names, y.2 = .local → scope.names.lookup y.1 = some .local) (hx : scope.names.lookup x = some .local)
    (h : wpAny (model prog w) A (eval iter env) (fun xv s₁ => ∃ xt tx news, xv = .str xt tx ∧ A.handled = none ∧ Fr h₀ L s₁.heap m ∧ News h₀ L s₁.heap news ∧ xt.length ≤ sizeLine ∧
      ∀ g, CompRest prog w A h₀ L m env elt x scope cl { s₁ with heap := g } (fun _ => True) (SignAt xt) (FinE h₀ L m { s₁ with heap := g } Q) xt.cps.size 0 [] news) E s)
    (hs : ∀ x, foldedSetIterable iter env x = pure x := by intro _; rfl) :
    wpAny (model prog w) A (eval (.ListComp elt [⟨.Name x px, iter, [], 0⟩] scope pos) env) Q E s := by
  rw [eval_ListComp]
  refine wpAny_comprehension_free (use := none) rfl hs hclos hkind hnames (wpAny_mono h (fun xv s₁ h₁ => ?_) fun _ _ e => e)
  obtain ⟨xt, tx, news, rfl, hh, F, N, hsz, R⟩ := h₁
  have go : ∀ (o : Obj) (cn : String) (ho : o.isFreed = false), (∀ A' : Around, A'.handled = none → Walks prog w A' s₁.heap.objs.size [s₁.heap.objs.size] [s₁.heap.objs.size] xt.cps.size (SignAt xt) (fun i h => h.IsStrIter s₁.heap.objs.size cn xt tx i)) → (s₁.heap.push o).IsStrIter s₁.heap.objs.size cn xt tx 0 →
      wpAny (model prog w) A (newList []) (fun acc s₃ => wpAny (model prog w) A (newFunctionEnv scope env.globals cl [] env.qual none .none (some env)) (fun cenv s₄ =>
        codeAny (model prog w) A (.compStart (.ListComp elt [⟨.Name x px, iter, [], 0⟩] scope pos) 0 (.ref s₁.heap.objs.size) acc { cenv with scope := relabel scope env }) (compPost (model prog w) A E none Q acc cenv.locals) s₄) E s₃) E { s₁ with heap := s₁.heap.push o } := by
    intro o cn ho hW hst
    refine block_U (hW A hh) hsz (fun i h st => by obtain ⟨o, e, _⟩ := st; exact ⟨o, e⟩) str_st hcell hkind hx hst (fun b hb => ?_)
      (F.push _) (N.grown fun _ _ e => Heap.get?_push_of_some _ e) (Nat.ne_of_lt F.ns.lt) (next_is_new F) (fun p hp => Nat.ne_of_lt (Heap.lt_size (N p hp).1)) trivial (R _) ?_
    · rw [List.mem_singleton.mp hb]
      show s₁.heap.objs.size < (s₁.heap.push _).objs.size
      rw [Heap.size_push]; exact Nat.lt_succ_self _
    · intro D C h tk m' ys news' F' N' o1 hn hC₀ hD₀ hCL hDL hCD offC fin
      refine ⟨m', hn, fun h'' hs'' => fin D h'' tk (F'.change hs'' hCL hC₀) (fun p hp => ?_) o1⟩
      refine ⟨hs''.extBut _ _ ?_ (N' p hp).1, (N' p hp).2⟩
      rcases List.mem_cons.mp hp with rfl | hp
      · exact Ne.symm hCD
      · exact offC p hp
  cases ha : xt.cps.all (· < 128)
  · exact wpAny_pyIter_wide ha (go _ _ rfl (fun A' hA => Walks.strWide hA _ xt tx) ⟨_, Heap.get?_push_size _ rfl, rfl, rfl⟩)
  · exact wpAny_pyIter_ascii ha (go _ _ rfl (fun A' hA => Walks.strAscii hA _ xt tx) ⟨_, Heap.get?_push_size _ rfl, rfl, rfl⟩)
theorem off1_mem {D : Addr} : ∀ {l : List (Addr × Obj)}, Off1 D l → ∀ p ∈ l, p.1 ≠ D
  | [], _, _, h => nomatch h
  | _ :: _, x, p, h => by
    rcases List.mem_cons.mp h with rfl | h
    · exact x.1
    · exact off1_mem x.2 p h
theorem fresh_ne {h₁ g h' : Heap} {L L' D : Addr} {o : Obj} {known news out : List (Addr × Obj)} (N₁ : News h₀ L h₁ news) (hgk : Mine.Keeps (known.map (·.1)) h₁ g) (N' : News g L' h' out) (hD : (D, o) ∈ out) (hk : ∀ p ∈ known, p.1 ≠ D) : ∀ p ∈ news, p.1 ≠ D := fun p hp e => by
  by_cases q : p.1 ∈ known.map (·.1)
  · obtain ⟨r, hr, e'⟩ := List.mem_map.mp q
    exact hk r hr (e'.trans e)
  · have := hgk _ _ (N₁ p hp).1 q
    rw [e, (N' _ hD).2.2] at this; cases this
-- over a list of the ledger, the ledger as it was behind each turn
theorem srcT_L {ct elt : PySem.Expr} {x : Str} {scope : Scope} {cl : List (Str × Addr)} {Fin : Shared → List Value → List (Addr × Obj) → Prop} {ax : Addr} {vs : List Value} {k : Nat} {news : List (Addr × Obj)} {s₁ : Shared} (Jf : List (Addr × Obj) → Nat → List Value → Prop)
    (hh : A.handled = none) (F : Fr h₀ L s₁.heap m) (N : News h₀ L s₁.heap news) (hm : (ax, W.listOf vs.toArray k) ∈ news) (hsz : vs.length ≤ 1000) (hj : Jf news 0 [])
    (step : ∀ i ys v I oI C oC D m₂ h tk (E' : Value → Shared → Prop), vs[i]? = some v → Jf news i ys → NsObj oC m₂ → m₂ x = some v → Fr h₀ L h m → News h₀ L h ((I, oI) :: (C, oC) :: (D, lst ys) :: news) → (∀ p ∈ news, p.1 ≠ I ∧ p.1 ≠ C ∧ p.1 ≠ D) → ((@Ne Nat I C) ∧ (@Ne Nat I D) ∧ (@Ne Nat C D)) →
      wpAny (model prog w) A (isTrue ct (compEnvC scope cl C env) (eval ct (compEnvC scope cl C env))) (fun ok s' => if ok = true then
        wpAny (model prog w) A (eval elt (compEnvC scope cl C env)) (CmpEnd h₀ L m { s₁ with heap := h, toks := tk } I oI C oC D (lst ys) (fun y nw' => nw' = news ∧ Jf news (i + 1) (ys ++ [y]))) E' s'
        else CmpEnd h₀ L m { s₁ with heap := h, toks := tk } I oI C oC D (lst ys) (fun _ nw' => nw' = news ∧ Jf news (i + 1) ys) Value.none s') E' { s₁ with heap := h, toks := tk })
    (fin : ∀ g ys, Jf news vs.length ys → Fin { s₁ with heap := g } ys news) : LCt.CompSrcT prog w A h₀ L m env ct elt x scope cl Fin (.ref ax) s₁ :=
  LCt.CompSrcT.ledger hh F N hm (by rw [List.size_toArray, sizeLine_eq]; omega) fun g => restT (n := vs.toArray.size) (fun i ys nw => nw = news ∧ Jf news i ys) (fun i ys nw h => h.1 ▸ .inr ⟨_, hm, rfl, k, rfl⟩)
    (fun ys nw h => h.1 ▸ fin g ys (List.size_toArray .. ▸ h.2)) (fun i ys nw v I oI C oC D m₂ h tk E' hi hJ hv hC hx F N2 off ne => by
      obtain ⟨rfl, hJ⟩ := hJ
      exact step i ys v I oI C oC D m₂ h tk E' (by simpa using hv) hJ hC hx F N2 off ne) _ 0 [] news (Nat.zero_add _) ⟨rfl, hj⟩
inductive StrSrc (prog : Program) (w : World) (A : Around) (h₀ : Heap) (L : Addr) (m : Str → Option Value) (env : Env) (elt : PySem.Expr) (x : Str) (scope : Scope) (cl : List (Str × Addr)) (Q : Value → Shared → Prop) (xv : Value) (s₁ : Shared) : Prop where
  | mk xt tx news (h0 : xv = .str xt tx) (h1 : A.handled = none) (h2 : Fr h₀ L s₁.heap m) (h3 : News h₀ L s₁.heap news) (h4 : xt.length ≤ sizeLine) (h5 : ∀ g, CompRest prog w A h₀ L m env elt x scope cl { s₁ with heap := g } (fun _ => True) (SignAt xt) (FinE h₀ L m { s₁ with heap := g } Q) xt.cps.size 0 [] news) : StrSrc prog w A h₀ L m env elt x scope cl Q xv s₁
theorem comp_strD {elt iter : PySem.Expr} {x : Str} {px : Pos} {scope : Scope} {cl : List (Str × Addr)} {pos : Pos} {Q : Value → Shared → Prop} (F : Fr h₀ L s.heap m)
    (hclos : closureFor scope env = pure cl) (hcell : ∀ y ∈ scope.names, y.2 ≠ .cell) (hkind : scope.kind = .function)
    (hnames : ∀ y ∈ scope.names, y.2 = .local → scope.names.lookup y.1 = some .local) (hx : scope.names.lookup x = some .local)
    (h : wpAny (model prog w) A (eval iter env) (StrSrc prog w A h₀ L m env elt x scope cl Q) E s) (hs : ∀ x, foldedSetIterable iter env x = pure x := by intro _; rfl) :
    wpAny (model prog w) A (eval (.ListComp elt [⟨.Name x px, iter, [], 0⟩] scope pos) env) Q E s :=
  comp_str hclos hcell hkind hnames hx (wpAny_mono h (fun _ _ ⟨xt, tx, news, h0, h1, h2, h3, h4, h5⟩ => ⟨xt, tx, news, h0, h1, h2, h3, h4, h5⟩) fun _ _ e => e) hs
theorem srcS_L {elt : PySem.Expr} {x : Str} {scope : Scope} {cl : List (Str × Addr)} {Q : Value → Shared → Prop} {xt : Str} {tx : Tok} {news : List (Addr × Obj)} {s₁ : Shared} (Jf : Nat → List Value → Prop)
    (hh : A.handled = none) (F : Fr h₀ L s₁.heap m) (N : News h₀ L s₁.heap news) (hsz : xt.length ≤ 1000) (hj : Jf 0 [])
    (step : ∀ i ys c u I oI C oC D m₂ h tk (E' : Value → Shared → Prop), xt.cps[i]? = some c → Jf i ys → NsObj oC m₂ → m₂ x = some (.str ⟨#[c]⟩ u) → Fr h₀ L h m → News h₀ L h ((I, oI) :: (C, oC) :: (D, lst ys) :: news) → (∀ p ∈ news, p.1 ≠ I ∧ p.1 ≠ C ∧ p.1 ≠ D) → ((@Ne Nat I C) ∧ (@Ne Nat I D) ∧ (@Ne Nat C D)) →
      wpAny (model prog w) A (eval elt (compEnvC scope cl C env)) (CmpEnd h₀ L m { s₁ with heap := h, toks := tk } I oI C oC D (lst ys) (fun y nw' => nw' = news ∧ Jf (i + 1) (ys ++ [y]))) E' { s₁ with heap := h, toks := tk })
    (fin : ∀ g ys, Jf xt.cps.size ys → FinE h₀ L m { s₁ with heap := g } Q ys news) : StrSrc prog w A h₀ L m env elt x scope cl Q (.str xt tx) s₁ :=
  ⟨xt, tx, news, rfl, hh, F, N, by rw [sizeLine_eq]; omega, fun g => restU (n := xt.cps.size) (fun i ys nw => nw = news ∧ Jf i ys) (fun _ _ _ _ => trivial)
    (fun ys nw h => h.1 ▸ fin g ys h.2) (fun i ys nw v I oI C oC D m₂ h tk E' hi hJ hv hC hx F N2 off ne => by
      obtain ⟨rfl, hJ⟩ := hJ
      obtain ⟨c, u, hc, rfl⟩ := hv
      exact step i ys c u I oI C oC D m₂ h tk E' hc hJ hC hx F N2 off ne) _ 0 [] news (Nat.zero_add _) ⟨rfl, hj⟩⟩
end
end Mine

-- A COMPREHENSION OVER PAIRS WHOSE FIRST NAME IS A CELL (an inner comprehension reads it)
namespace Mine
open PySem.Calls PyProof.Rows.LCg PyProof.Rows.LCp
section
variable {M : Model} {A : Around} {E : Value → Shared → Prop} {s : Shared}
theorem forall_mem_at {h h' : Heap} {h₀ : Heap} {L a : Addr} {l : List (Addr × Obj)} (N : News h₀ L h l) (hs : Heap.SameBut a h h') (hne : ∀ p ∈ l, p.1 ≠ a) : News h₀ L h' l :=
  fun p hp => ⟨hs.extBut _ _ (hne p hp) (N p hp).1, (N p hp).2⟩
end
section
variable {prog : Program} {w : World} {A : Around} {E : Value → Shared → Prop} {s : Shared} {h₀ : Heap} {L : Addr} {m : Str → Option Value} {env : Env}
-- over a range, by an invariant
def RSrc (prog : Program) (w : World) (A : Around) (h₀ : Heap) (L : Addr) (m : Str → Option Value) (env : Env) (elt : PySem.Expr) (x : Str) (scope : Scope) (cl : List (Str × Addr)) (Q : Value → Shared → Prop) (xv : Value) (s₁ : Shared) : Prop :=
  CompSrc prog w A h₀ L m env elt x scope cl (fun s₂ => FinE h₀ L m s₂ Q) xv s₁
theorem comp_R {elt iter : PySem.Expr} {x : Str} {px : Pos} {scope : Scope} {cl : List (Str × Addr)} {pos : Pos} {Q : Value → Shared → Prop} (F₀ : Fr h₀ L s.heap m)
    (hclos : closureFor scope env = pure cl) (hcell : ∀ y ∈ scope.names, y.2 ≠ .cell) (hkind : scope.kind = .function)
    (hnames : ∀ y ∈ scope.names, y.2 = .local → scope.names.lookup y.1 = some .local) (hx : scope.names.lookup x = some .local)
    (h : wpAny (model prog w) A (eval iter env) (RSrc prog w A h₀ L m env elt x scope cl Q) E s)
    (hs : ∀ x, foldedSetIterable iter env x = pure x := by intro _; rfl) :
    wpAny (model prog w) A (eval (.ListComp elt [⟨.Name x px, iter, [], 0⟩] scope pos) env) Q E s := ListComp_U F₀ hclos hcell hkind hnames hx h hs
theorem srcR_L {elt : PySem.Expr} {x : Str} {scope : Scope} {cl : List (Str × Addr)} {Q : Value → Shared → Prop} {r : Addr} {a₀ b₀ : Int} {t₀ u₀ v₀ : Tok} {news : List (Addr × Obj)} {s₁ : Shared} (n : Nat) (Jf : Nat → List Value → Prop)
    (hh : A.handled = none) (F : Fr h₀ L s₁.heap m) (N : News h₀ L s₁.heap news) (hr : IsRange s₁.heap r a₀ b₀ 1 t₀ u₀ v₀) (ha : -(2 ^ 20) ≤ a₀ ∧ a₀ ≤ 2 ^ 20) (hb : -(2 ^ 20) ≤ b₀ ∧ b₀ ≤ 2 ^ 20) (hn : (b₀ - a₀).toNat = n) (hj : Jf 0 [])
    (step : ∀ (i : Nat) ys u I oI C oC D m₂ h tk (E' : Value → Shared → Prop), i < n → Jf i ys → NsObj oC m₂ → m₂ x = some (.int (a₀ + (i : Int)) u) → Fr h₀ L h m → News h₀ L h ((I, oI) :: (C, oC) :: (D, lst ys) :: news) → (∀ p ∈ news, p.1 ≠ I ∧ p.1 ≠ C ∧ p.1 ≠ D) → ((@Ne Nat I C) ∧ (@Ne Nat I D) ∧ (@Ne Nat C D)) →
      wpAny (model prog w) A (eval elt (compEnvC scope cl C env)) (CmpEnd h₀ L m { s₁ with heap := h, toks := tk } I oI C oC D (lst ys) (fun y nw' => nw' = news ∧ Jf (i + 1) (ys ++ [y]))) E' { s₁ with heap := h, toks := tk })
    (fin : ∀ g ys, Jf n ys → FinE h₀ L m { s₁ with heap := g } Q ys news) : RSrc prog w A h₀ L m env elt x scope cl Q (.ref r) s₁ :=
  CompSrc.range hh F N hr (small_one (by omega) (by omega) (by omega) (by omega)) (by rw [rangeSize_nat, hn]) (by rw [sizeLine_eq]; omega) fun g => restU (n := n) (fun i ys nw => nw = news ∧ Jf i ys) (fun _ _ _ _ => trivial)
    (fun ys nw h => h.1 ▸ fin g ys h.2) (fun i ys nw v I oI C oC D m₂ h tk E' hi hJ hv hC hx F N2 off ne => by
      obtain ⟨rfl, hJ⟩ := hJ
      obtain ⟨u, rfl⟩ := hv
      exact step i ys u I oI C oC D m₂ h tk E' hi hJ hC hx F N2 off ne) _ 0 [] news (Nat.zero_add _) ⟨rfl, hj⟩
end
end Mine

-- A COMPREHENSION WITH TWO FORS
namespace Mine
open PySem.Calls PyProof.Rows.LCg PyProof.Rows.LCp
theorem compTurn_out (elt t1 i1 t2 i2 : PySem.Expr) (ifs : List PySem.Expr) (scope : Scope) (pos : Pos) (it acc : Value) (env : Env) :
    compTurn (.ListComp elt [⟨t1, i1, [], 0⟩, ⟨t2, i2, ifs, 0⟩] scope pos) 0 it acc env = (standAt i1.pos >>= fun _ => pyNext it >>= fun r => match r with
      | none => pure (.done .next)
      | some v => letOwnedTupleGo t1 it v >>= fun _ => assign t1 env v >>= fun _ =>
        eval i2 env >>= fun x => standAt i2.pos >>= fun _ => foldedSetIterable i2 env x >>= fun x => holding [x] (pyIter x) >>= fun x =>
        runOwn (.compStart (.ListComp elt [⟨t1, i1, [], 0⟩, ⟨t2, i2, ifs, 0⟩] scope pos) 1 x acc env) env >>= fun _ =>
          again (.compLoop (.ListComp elt [⟨t1, i1, [], 0⟩, ⟨t2, i2, ifs, 0⟩] scope pos) 0 it acc env)) := by rfl
theorem compTurn_in (elt t1 i1 t2 i2 : PySem.Expr) (ifs : List PySem.Expr) (scope : Scope) (pos : Pos) (it acc : Value) (env : Env) :
    compTurn (.ListComp elt [⟨t1, i1, [], 0⟩, ⟨t2, i2, ifs, 0⟩] scope pos) 1 it acc env = (do
      standAt i2.pos
      match ← pyNext it with
      | none => pure (.done .next)
      | some v =>
        letOwnedTupleGo t2 it v
        assign t2 env v
        let mut ok := true
        for c in ifs do
          if ok then ok ← isTrue c env (eval c env)
        if ok then
          (do let _ ← call (.builtin "list.append") [acc, ← eval elt env])
        again (.compLoop (.ListComp elt [⟨t1, i1, [], 0⟩, ⟨t2, i2, ifs, 0⟩] scope pos) 1 it acc env)) := by rfl
section
variable {prog : Program} {w : World} {A : Around} {E : Value → Shared → Prop} {R : Result → Shared → Prop} {s : Shared}
theorem codeAny_out {elt t1 i1 t2 i2 : PySem.Expr} {ifs : List PySem.Expr} {scope : Scope} {pos : Pos} {it acc : Value} {env : Env} (I : Nat → Shared → Prop)
    (turn : ∀ n s, I n s → wpAny (model prog w) A (pyNext it) (fun r s₁ => match r with
      | none => R (.ok .next) s₁
      | some v => wpAny (model prog w) A (assign t1 env v) (fun _ s₂ =>
          wpAny (model prog w) A (eval i2 env) (fun x s₃ => wpAny (model prog w) A (pyIter x) (fun it₂ s₄ =>
            codeAny (model prog w) A (.compStart (.ListComp elt [⟨t1, i1, [], 0⟩, ⟨t2, i2, ifs, 0⟩] scope pos) 1 it₂ acc env) (fun r s₅ => match r with
              | .ok _ => ∃ m, m < n ∧ I m s₅
              | .error e => cameBackBy (model prog w) A env (notedBy (model prog w) A env fun e s' => R (.error e) s') e s₅) s₄) (notedBy (model prog w) A env fun e s' => R (.error e) s') s₃)
            (notedBy (model prog w) A env fun e s' => R (.error e) s') s₂) (notedBy (model prog w) A env fun e s' => R (.error e) s') s₁) (notedBy (model prog w) A env fun e s' => R (.error e) s') s)
    (n : Nat) (h : I n s) (ht : ∀ v, letOwnedTupleGo t1 it v = pure () := by intro _; rfl) (hs : ∀ x, foldedSetIterable i2 env x = pure x := by intro _; rfl) :
    codeAny (model prog w) A (.compLoop (.ListComp elt [⟨t1, i1, [], 0⟩, ⟨t2, i2, ifs, 0⟩] scope pos) 0 it acc env) R s := by
  refine codeAny_loop rfl I (fun n s hI => ?_) n h
  show wpAny _ A ((compTurn (.ListComp elt [⟨t1, i1, [], 0⟩, ⟨t2, i2, ifs, 0⟩] scope pos) 0 it acc env).onRaise (fun x => do noteFrame x env; theTreesLotGoes x)) _ _ s
  refine wpAny_noted ?_
  rw [compTurn_out]
  refine wpAny_bind (wpAny_standAt (wpAny_bind (wpAny_mono (turn n s hI) (fun r s₁ h₁ => ?_) fun _ _ h' => h')))
  cases r with
  | none => exact wpAny_pure h₁
  | some v =>
    refine wpAny_bind (wpAny_of_eq (ht v) ?_)
    refine wpAny_bind (wpAny_mono h₁ (fun _ s₂ h₂ => wpAny_bind (wpAny_mono h₂ (fun x s₃ h₃ => ?_) fun _ _ h' => h')) fun _ _ h' => h')
    refine wpAny_bind (wpAny_standAt (wpAny_bind (wpAny_of_eq (hs x) (wpAny_bind (wpAny_holding (wpAny_mono h₃ (fun it₂ s₄ h₄ => ?_) fun _ _ h' => h'))))))
    refine wpAny_bind (wpAny_runOwn (codeAny_mono h₄ fun r s₅ h₅ => ?_))
    cases r with
    | ok f => exact wpAny_pure ⟨rfl, h₅⟩
    | error e => exact h₅
theorem codeAny_in {elt t1 i1 t2 i2 c : PySem.Expr} {scope : Scope} {pos : Pos} {it acc : Value} {env : Env} (I : Nat → Shared → Prop)
    (turn : ∀ n s, I n s → wpAny (model prog w) A (pyNext it) (fun r s₁ => match r with
      | none => R (.ok .next) s₁
      | some v => wpAny (model prog w) A (letOwnedTupleGo t2 it v) (fun _ s₀ => wpAny (model prog w) A (assign t2 env v) (fun _ s₂ =>
          wpAny (model prog w) A (isTrue c env (eval c env)) (fun ok s₃ => if ok = true then wpAny (model prog w) A (eval elt env) (fun x s₄ =>
            wpAny (model prog w) A (call (.builtin "list.append") [acc, x]) (fun _ s₅ => ∃ m, m < n ∧ I m s₅) (notedBy (model prog w) A env fun e s' => R (.error e) s') s₄) (notedBy (model prog w) A env fun e s' => R (.error e) s') s₃
            else ∃ m, m < n ∧ I m s₃) (notedBy (model prog w) A env fun e s' => R (.error e) s') s₂)
          (notedBy (model prog w) A env fun e s' => R (.error e) s') s₀) (notedBy (model prog w) A env fun e s' => R (.error e) s') s₁) (notedBy (model prog w) A env fun e s' => R (.error e) s') s)
    (n : Nat) (h : I n s) : codeAny (model prog w) A (.compLoop (.ListComp elt [⟨t1, i1, [], 0⟩, ⟨t2, i2, [c], 0⟩] scope pos) 1 it acc env) R s := by
  refine codeAny_loop rfl I (fun n s hI => ?_) n h
  show wpAny _ A ((compTurn (.ListComp elt [⟨t1, i1, [], 0⟩, ⟨t2, i2, [c], 0⟩] scope pos) 1 it acc env).onRaise (fun x => do noteFrame x env; theTreesLotGoes x)) _ _ s
  refine wpAny_noted ?_
  rw [compTurn_in]
  refine wpAny_bind (wpAny_standAt (wpAny_bind (wpAny_mono (turn n s hI) (fun r s₁ h₁ => ?_) fun _ _ h' => h')))
  cases r with
  | none => exact wpAny_pure h₁
  | some v =>
    refine wpAny_bind (wpAny_mono h₁ (fun _ s₀ h₀' => ?_) fun _ _ h' => h')
    refine wpAny_bind (wpAny_mono h₀' (fun _ s₂ h₂ => ?_) fun _ _ h' => h')
    refine wpAny_bind (wpAny_tests_one (wpAny_mono h₂ (fun okb s₃ h₃ => ?_) fun _ _ h' => h'))
    cases okb with
    | false => exact wpAny_pure ⟨rfl, h₃⟩
    | true => exact wpAny_bind (wpAny_bind (wpAny_mono h₃ (fun x s₄ h₄ => wpAny_bind (wpAny_mono h₄ (fun _ s₅ h₅ => wpAny_pure (wpAny_pure ⟨rfl, h₅⟩)) fun _ _ h' => h')) fun _ _ h' => h'))
theorem codeAny_start1 {elt t1 i1 t2 i2 : PySem.Expr} {ifs : List PySem.Expr} {scope : Scope} {pos : Pos} {it acc : Value} {env : Env}
    (h0 : codeAny (model prog w) A (.compLoop (.ListComp elt [⟨t1, i1, [], 0⟩, ⟨t2, i2, ifs, 0⟩] scope pos) 1 it acc env) R s)
    (h : wpAny (model prog w) A (pyIter it) (fun it' s' => codeAny (model prog w) A (.compLoop (.ListComp elt [⟨t1, i1, [], 0⟩, ⟨t2, i2, ifs, 0⟩] scope pos) 1 it' acc env) R s')
      (notedBy (model prog w) A env fun x s' => R (.error x) s') s) :
    codeAny (model prog w) A (.compStart (.ListComp elt [⟨t1, i1, [], 0⟩, ⟨t2, i2, ifs, 0⟩] scope pos) 1 it acc env) R s := by
  refine codeAny_of_tree ?_
  show wpAny _ _ ((compStart (.ListComp elt [⟨t1, i1, [], 0⟩, ⟨t2, i2, ifs, 0⟩] scope pos) 1 it acc env).onRaise (fun x => do noteFrame x env; standAt theWindowsPlace)) _ _ s
  refine wpAny_notedAt ?_
  unfold compStart
  show wpAny _ _ (ask >>= _) _ _ s
  refine wpAny_bind (wpAny_askSetting (wpAny_ite ?_))
  split
  · first
      | exact wpAny_bind (wpAny_pure (wpAny_pure (And.intro rfl h0)))
      | exact wpAny_pure (And.intro rfl h0)
  · first
      | exact wpAny_bind (wpAny_rule (wpAny_bind (wpAny_standAt (wpAny_bind (wpAny_mono h (fun it' s' h' => wpAny_pure (And.intro rfl h')) fun _ _ x => x)))))
      | (refine wpAny_bind (wpAny_rule ?_); show wpAny _ _ (standAt i2.pos >>= _) _ _ s; exact wpAny_bind (wpAny_standAt (wpAny_bind (wpAny_mono h (fun it' s' h' => wpAny_pure (And.intro rfl h')) fun _ _ x => x))))
end
abbrev tupOf4 (v₁ v₂ v₃ v₄ : Value) : Obj := { cls := .type "tuple", data := .seq #[v₁, v₂, v₃, v₄] }
inductive TwIn (h₀ : Heap) (L : Addr) (m : Str → Option Value) (s₁ : Shared) (I : Addr) (oI : Obj) (C D I2 bx : Addr) (x : Str) (v : Value) (news : List (Addr × Obj)) (b z : Nat) (J : Nat → List Value → Prop) (n : Nat) (s' : Shared) : Prop where
  | mk h' tk j ys m' oC (e0 : s' = { s₁ with heap := h', toks := tk }) (e1 : j ≤ z) (e2 : n = z + 1 - j) (e3 : ys.length ≤ b + j) (e4 : h'.IsListIter I2 bx j) (e5 : Fr h₀ L h' m) (e6 : NsObj oC m') (e7 : m' x = some v)
      (e8 : News h₀ L h' ((I, oI) :: (C, oC) :: (D, lst ys) :: news)) (e10 : J j ys) : TwIn h₀ L m s₁ I oI C D I2 bx x v news b z J n s'
section
variable {prog : Program} {w : World} {A : Around} {E : Value → Shared → Prop} {R : Result → Shared → Prop} {h₀ : Heap} {L : Addr} {m : Str → Option Value} {env : Env}
theorem two_in {elt t1 i1 i2 c : PySem.Expr} {b1 b2 b3 b4 x : Str} {p1 p2 p3 p4 tp : Pos} {tk₀} {scope : Scope} {pos : Pos} {cl : List (Str × Addr)} {s₁ : Shared} {I C D I2 bx : Addr} {oI : Obj} {v : Value} {ws : List Value} {kb b : Nat} {news : List (Addr × Obj)} (J : Nat → List Value → Prop)
    (hkind : scope.kind = .function) (hb1 : scope.names.lookup b1 = some .local) (hb2 : scope.names.lookup b2 = some .local) (hb3 : scope.names.lookup b3 = some .local) (hb4 : scope.names.lookup b4 = some .local)
    (hnd : (b1 ≠ b2 ∧ b1 ≠ b3 ∧ b1 ≠ b4 ∧ b2 ≠ b3 ∧ b2 ≠ b4 ∧ b3 ≠ b4) ∧ (x ≠ b1 ∧ x ≠ b2 ∧ x ≠ b3 ∧ x ≠ b4))
    (hh : A.handled = none) (hbx : (bx, W.listOf ws.toArray kb) ∈ news) (hz : b + ws.length ≤ 1000) (hI2 : L ≠ I2 ∧ h₀.get? I2 = none) (hne : I ≠ I2 ∧ C ≠ I2 ∧ D ≠ I2 ∧ I ≠ C ∧ I ≠ D ∧ C ≠ D) (off : ∀ p ∈ news, p.1 ≠ I ∧ p.1 ≠ C ∧ p.1 ≠ D ∧ p.1 ≠ I2)
    (turn : ∀ j w₀ ys, ws[j]? = some w₀ → J j ys → ∃ t v₁ v₂ v₃ v₄, w₀ = .ref t ∧ (t, tupOf4 v₁ v₂ v₃ v₄) ∈ news ∧ ∀ oC oI2 m₂ h tk (E' : Value → Shared → Prop), NsObj oC m₂ → m₂ x = some v → m₂ b1 = some v₁ → m₂ b2 = some v₂ → m₂ b3 = some v₃ → m₂ b4 = some v₄ → Fr h₀ L h m → News h₀ L h ((I, oI) :: (C, oC) :: (D, lst ys) :: (I2, oI2) :: news) →
      wpAny (model prog w) A (isTrue c (compEnvC scope cl C env) (eval c (compEnvC scope cl C env))) (fun ok s' => if ok = true then
        wpAny (model prog w) A (eval elt (compEnvC scope cl C env)) (CmpEnd h₀ L m { s₁ with heap := h, toks := tk } I oI C oC D (lst ys) (fun y nw' => nw' = (I2, oI2) :: news ∧ J (j + 1) (ys ++ [y]))) E' s'
        else CmpEnd h₀ L m { s₁ with heap := h, toks := tk } I oI C oC D (lst ys) (fun _ nw' => nw' = (I2, oI2) :: news ∧ J (j + 1) ys) Value.none s') E' { s₁ with heap := h, toks := tk })
    {h : Heap} {tk : Tok} {ys : List Value} {m' : Str → Option Value} {oC : Obj} (st : h.IsListIter I2 bx 0) (F : Fr h₀ L h m) (hC : NsObj oC m') (hx : m' x = some v) (N : News h₀ L h ((I, oI) :: (C, oC) :: (D, lst ys) :: news)) (hl : ys.length ≤ b) (hj : J 0 ys)
    (fin : ∀ h' tk' ys' m' oC', Fr h₀ L h' m → NsObj oC' m' → News h₀ L h' ((I, oI) :: (C, oC') :: (D, lst ys') :: news) → ys'.length ≤ b + ws.length → J ws.length ys' → R (.ok .next) { s₁ with heap := h', toks := tk' }) :
    codeAny (model prog w) A (.compStart (.ListComp elt [⟨t1, i1, [], 0⟩, ⟨.Tuple [.Name b1 p1, .Name b2 p2, .Name b3 p3, .Name b4 p4] tk₀ tp, i2, [c], 0⟩] scope pos) 1 (.ref I2) (.ref D) (compEnvC scope cl C env)) R { s₁ with heap := h, toks := tk } := by
  have hlt : bx ≠ I2 := (off _ hbx).2.2.2
  have W := Walks.list (prog := prog) (w := w) hh I2 bx hlt ws.toArray
  have hsz : ws.toArray.size = ws.length := List.size_toArray ..
  have loop : codeAny (model prog w) A (.compLoop (.ListComp elt [⟨t1, i1, [], 0⟩, ⟨.Tuple [.Name b1 p1, .Name b2 p2, .Name b3 p3, .Name b4 p4] tk₀ tp, i2, [c], 0⟩] scope pos) 1 (.ref I2) (.ref D) (compEnvC scope cl C env)) R { s₁ with heap := h, toks := tk } := by
    refine codeAny_in (TwIn h₀ L m s₁ I oI C D I2 bx x v news b ws.length J) ?_ (ws.length + 1) ⟨h, tk, 0, ys, m', oC, rfl, Nat.zero_le _, rfl, hl, st, F, hC, hx, N, hj⟩
    rintro n s' ⟨h', tk', j, ys', m₁, oC', rfl, hi, rfl, hyl, hst', F', hC', hx', N', hJ⟩
    have hla : h'.IsList bx ws.toArray := ⟨_, (N' _ (.tail _ (.tail _ (.tail _ hbx)))).1, rfl, kb, rfl⟩
    have offs : ∀ p ∈ (I, oI) :: (C, oC') :: (D, lst ys') :: news, p.1 ≠ I2 := List.forall_mem_cons.mpr ⟨hne.1, List.forall_mem_cons.mpr ⟨hne.2.1, List.forall_mem_cons.mpr ⟨hne.2.2.1, fun p hp => (off p hp).2.2.2⟩⟩⟩
    by_cases hlt2 : j < ws.length
    · refine W.item j _ _ _ (by rw [hsz]; exact hlt2) ⟨hst', hla⟩ fun v₀ h₃ tk₃ hPv hst₃ hk₃ => ?_
      obtain ⟨t, v₁, v₂, v₃, v₄, rfl, hmt, R⟩ := turn j v₀ ys' (by simpa using hPv) hJ
      have F₃ := fr_but F' hk₃ hI2.1 hI2.2
      have N₃ : News h₀ L h₃ _ := news_but N' hk₃ offs
      refine wpAny_letOwnedTupleGo_listiter hst₃.1 ?_
      refine assign_Tuple_tuple hh ⟨_, (N₃ _ (.tail _ (.tail _ (.tail _ hmt)))).1, rfl, 0, rfl⟩ rfl rfl fun h₅ he => ?_
      have he' : ∀ b o, h₃.get? b = some o → h₅.get? b = some o := fun b o e => he b o (Nat.ne_of_lt (Heap.lt_size e)) e
      have F₅ := F₃.keeps he'
      obtain ⟨oI2, gI2, cI2, dI2⟩ := hst₃.1
      have N₅ : News h₀ L h₅ ((C, oC') :: (I, oI) :: (D, lst ys') :: (I2, oI2) :: news) := by
        have a := N₃.grown he'
        exact List.forall_mem_cons.mpr ⟨a _ (.tail _ (.head _)), List.forall_mem_cons.mpr ⟨a _ (.head _), List.forall_mem_cons.mpr ⟨a _ (.tail _ (.tail _ (.head _))), List.forall_mem_cons.mpr ⟨⟨he' _ _ gI2, Ne.symm hI2.1, hI2.2⟩, fun q hq => a q (.tail _ (.tail _ (.tail _ hq)))⟩⟩⟩⟩
      have offC : ∀ p ∈ (I, oI) :: (D, lst ys') :: (I2, oI2) :: news, p.1 ≠ C := List.forall_mem_cons.mpr ⟨hne.2.2.2.1, List.forall_mem_cons.mpr ⟨Ne.symm hne.2.2.2.2.2, List.forall_mem_cons.mpr ⟨Ne.symm hne.2.1, fun p hp => (off p hp).2.1⟩⟩⟩
      have put : ∀ (y : Str) (u : Value) (h : Heap) (oC : Obj) (mm : Str → Option Value) (tk : Tok) (K : Unit → Shared → Prop) (E' : Value → Shared → Prop) (p : Pos), scope.names.lookup y = some .local → Fr h₀ L h m → NsObj oC mm → News h₀ L h ((C, oC) :: (I, oI) :: (D, lst ys') :: (I2, oI2) :: news) →
          (∀ h' tk' oC', Fr h₀ L h' m → NsObj oC' (fun z => if z = y then some u else mm z) → News h₀ L h' ((C, oC') :: (I, oI) :: (D, lst ys') :: (I2, oI2) :: news) → K () { s₁ with heap := h', toks := tk' }) → wpAny (model prog w) A (assign (.Name y p) (compEnvC scope cl C env) u) K E' { s₁ with heap := h, toks := tk } := by
        intro y u h oC mm tk K E' p hy F hC N k
        have z0 := N _ (.head _)
        refine wpAny_assign_Name (wpAny_storeName_local (lookup_relabel_local hy) (NsObj.ns hC z0.1) (fun h' hn hs => ?_) (by simp [compEnvC, relabel, hkind]))
        obtain ⟨oC', gC, hC'⟩ := ns_obj hn
        exact k h' _ oC' (Fr.change F hs z0.2.1 z0.2.2) hC' (List.forall_mem_cons.mpr ⟨⟨gC, z0.2⟩, forall_mem_at (News.sub N fun q hq => .tail _ hq) hs offC⟩)
      refine assignInOrder_cons (put b1 v₁ _ _ _ _ _ _ _ hb1 F₅ hC' N₅ fun h₆ _ oC6 F₆ hC6 N₆ => ?_)
      refine assignInOrder_cons (put b2 v₂ _ _ _ _ _ _ _ hb2 F₆ hC6 N₆ fun h₇ _ oC7 F₇ hC7 N₇ => ?_)
      refine assignInOrder_cons (put b3 v₃ _ _ _ _ _ _ _ hb3 F₇ hC7 N₇ fun h₈ _ oC8 F₈ hC8 N₈ => ?_)
      refine assignInOrder_cons (put b4 v₄ _ _ _ _ _ _ _ hb4 F₈ hC8 N₈ fun h₉ _ oC9 F₉ hC9 N₉ => ?_)
      refine assignInOrder_nil ?_
      obtain ⟨⟨n12, n13, n14, n23, n24, n34⟩, nx1, nx2, nx3, nx4⟩ := hnd
      have Nz : News h₀ L h₉ ((I, oI) :: (C, oC9) :: (D, lst ys') :: (I2, oI2) :: news) := List.forall_mem_cons.mpr ⟨N₉ _ (.tail _ (.head _)), List.forall_mem_cons.mpr ⟨N₉ _ (.head _), fun q hq => N₉ q (.tail _ (.tail _ hq))⟩⟩
      have back : ∀ (ys₂ : List Value) h' tk', ys₂.length ≤ b + (j + 1) → Fr h₀ L h' m → News h₀ L h' ((I, oI) :: (C, oC9) :: (D, lst ys₂) :: (I2, oI2) :: news) → J (j + 1) ys₂ → ∃ n, n < ws.length + 1 - j ∧ TwIn h₀ L m s₁ I oI C D I2 bx x v news b ws.length J n { s₁ with heap := h', toks := tk' } := by
        intro ys₂ h' tk' hl F N hj
        exact ⟨ws.length + 1 - (j + 1), by omega, h', tk', j + 1, ys₂, _, oC9, rfl, hlt2, rfl, hl, ⟨oI2, (N _ (.tail _ (.tail _ (.tail _ (.head _))))).1, cI2, dI2⟩, F, hC9, by simp [nx1, nx2, nx3, nx4, hx'], News.sub N (sub_cons (.head _) (sub_cons (.tail _ (.head _)) (sub_cons (.tail _ (.tail _ (.head _))) fun q hq => .tail _ (.tail _ (.tail _ (.tail _ hq)))))), hj⟩
      refine wpAny_mono (R oC9 oI2 _ h₉ _ _ hC9 (by simp [nx1, nx2, nx3, nx4, hx']) (by simp [n12, n13, n14]) (by simp [n23, n24]) (by simp [n34]) (by simp) F₉ Nz) (fun ok s₄ h₄ => ?_) fun _ _ e => e
      cases ok with
      | false =>
        simp only [Bool.false_eq_true, if_false] at h₄ ⊢
        obtain ⟨h₈, tk₈, nw₈, rfl, F₈, N₈, off₈, rfl, J₈⟩ := h₄
        exact back ys' h₈ tk₈ (by omega) F₈ N₈ J₈
      | true =>
        simp only [if_true] at h₄ ⊢
        refine wpAny_mono h₄ (fun y s₅ h₅ => ?_) fun _ _ e => e
        obtain ⟨h₈, tk₈, nw₈, rfl, F₈, N₈, off₈, rfl, J₈⟩ := h₅
        have zD := N₈ _ (.tail _ (.tail _ (.head _)))
        refine append_at (hsz := by show ys'.toArray.size ≤ sizeLine; rw [List.size_toArray, sizeLine_eq]; omega) zD.1 fun h₉ hs₉ hD₉ => ?_
        refine back (ys' ++ [y]) h₉ tk₈ (by rw [List.length_append, List.length_singleton]; omega) (Fr.change F₈ hs₉ zD.2.1 zD.2.2) ?_ J₈
        refine List.forall_mem_cons.mpr ⟨⟨hs₉.extBut _ _ hne.2.2.2.2.1 (N₈ _ (.head _)).1, (N₈ _ (.head _)).2⟩, List.forall_mem_cons.mpr ⟨⟨hs₉.extBut _ _ hne.2.2.2.2.2 (N₈ _ (.tail _ (.head _))).1, (N₈ _ (.tail _ (.head _))).2⟩, List.forall_mem_cons.mpr ⟨⟨hD₉.trans (congrArg some (lst_snoc ys' y)), zD.2⟩, ?_⟩⟩⟩
        exact forall_mem_at (News.sub N₈ fun q hq => .tail _ (.tail _ (.tail _ hq))) hs₉ (List.forall_mem_cons.mpr ⟨Ne.symm hne.2.2.1, fun p hp => (off p hp).2.2.1⟩)
    · obtain rfl : j = ws.length := Nat.le_antisymm hi (Nat.not_lt.mp hlt2)
      refine W.done _ _ _ (by rw [hsz]; exact ⟨hst', hla⟩) fun h₃ tk₃ hk₃ => ?_
      exact fin h₃ tk₃ ys' m₁ oC' (fr_but F' hk₃ hI2.1 hI2.2) hC' (news_but N' hk₃ offs) hyl hJ
  exact codeAny_start1 loop (W.self 0 _ _ _ ⟨st, ⟨_, (N _ (.tail _ (.tail _ (.tail _ hbx)))).1, rfl, kb, rfl⟩⟩ loop)
end
inductive TwOut (h₀ : Heap) (L : Addr) (m : Str → Option Value) (s₁ : Shared) (I ax C D : Addr) (news : List (Addr × Obj)) (wl z : Nat) (J : Nat → Nat → List Value → Prop) (n : Nat) (s' : Shared) : Prop where
  | mk h' tk i ys m' oC (e0 : s' = { s₁ with heap := h', toks := tk }) (e1 : i ≤ z) (e2 : n = z + 1 - i) (e3 : ys.length ≤ i * wl) (e4 : h'.IsListIter I ax i) (e5 : Fr h₀ L h' m) (e6 : NsObj oC m')
      (e8 : News h₀ L h' ((C, oC) :: (D, lst ys) :: news)) (e10 : J i 0 ys) : TwOut h₀ L m s₁ I ax C D news wl z J n s'
inductive TwSrc (prog : Program) (w : World) (A : Around) (h₀ : Heap) (L : Addr) (m : Str → Option Value) (env : Env) (c elt i2 : PySem.Expr) (x b1 b2 b3 b4 : Str) (scope : Scope) (cl : List (Str × Addr)) (Fin : Shared → List Value → List (Addr × Obj) → Prop) (xv : Value) (s₁ : Shared) : Prop where
  | mk (ax : Addr) (vs : List Value) (k : Nat) (bx : Addr) (ws : List Value) (kb : Nat) (news : List (Addr × Obj)) (J : Nat → Nat → List Value → Prop) (h0 : xv = .ref ax) (h1 : A.handled = none) (h2 : Fr h₀ L s₁.heap m) (h3 : News h₀ L s₁.heap news) (h4 : (ax, W.listOf vs.toArray k) ∈ news) (h5 : (bx, W.listOf ws.toArray kb) ∈ news)
      (h6 : vs.length * ws.length ≤ 900 ∧ vs.length ≤ 900 ∧ ws.length ≤ 100) (h7 : J 0 0 []) (row : ∀ i ys, J i ws.length ys → J (i + 1) 0 ys)
      (it : ∀ I oI C oC D ys m₂ h tk (E' : Value → Shared → Prop), NsObj oC m₂ → Fr h₀ L h m → News h₀ L h ((I, oI) :: (C, oC) :: (D, lst ys) :: news) → wpAny (model prog w) A (eval i2 (compEnvC scope cl C env)) (fun y s' => y = .ref bx ∧ s' = { s₁ with heap := h, toks := tk }) E' { s₁ with heap := h, toks := tk })
      (turn : ∀ i j v w₀ ys, vs[i]? = some v → ws[j]? = some w₀ → J i j ys → ∃ t v₁ v₂ v₃ v₄, w₀ = .ref t ∧ (t, tupOf4 v₁ v₂ v₃ v₄) ∈ news ∧ ∀ I oI C D I2 oC oI2 m₂ h tk (E' : Value → Shared → Prop), NsObj oC m₂ → m₂ x = some v → m₂ b1 = some v₁ → m₂ b2 = some v₂ → m₂ b3 = some v₃ → m₂ b4 = some v₄ → Fr h₀ L h m → News h₀ L h ((I, oI) :: (C, oC) :: (D, lst ys) :: (I2, oI2) :: news) → (∀ p ∈ (I2, oI2) :: news, p.1 ≠ I ∧ p.1 ≠ C ∧ p.1 ≠ D) → ((@Ne Nat I C) ∧ (@Ne Nat I D) ∧ (@Ne Nat C D)) →
        wpAny (model prog w) A (isTrue c (compEnvC scope cl C env) (eval c (compEnvC scope cl C env))) (fun ok s' => if ok = true then
          wpAny (model prog w) A (eval elt (compEnvC scope cl C env)) (CmpEnd h₀ L m { s₁ with heap := h, toks := tk } I oI C oC D (lst ys) (fun y nw' => nw' = (I2, oI2) :: news ∧ J i (j + 1) (ys ++ [y]))) E' s'
          else CmpEnd h₀ L m { s₁ with heap := h, toks := tk } I oI C oC D (lst ys) (fun _ nw' => nw' = (I2, oI2) :: news ∧ J i (j + 1) ys) Value.none s') E' { s₁ with heap := h, toks := tk })
      (fin : ∀ g ys, J vs.length 0 ys → Fin { s₁ with heap := g } ys news) : TwSrc prog w A h₀ L m env c elt i2 x b1 b2 b3 b4 scope cl Fin xv s₁
section
variable {prog : Program} {w : World} {A : Around} {E : Value → Shared → Prop} {s : Shared} {h₀ : Heap} {L : Addr} {m : Str → Option Value} {env : Env}
theorem two_block {elt iter i2 c : PySem.Expr} {x b1 b2 b3 b4 : Str} {px p1 p2 p3 p4 tp : Pos} {tk₀} {scope : Scope} {cl : List (Str × Addr)} {pos : Pos} {Fin : Shared → List Value → List (Addr × Obj) → Prop} {xv : Value} {s₁ : Shared} {RR : Value → Addr → Result → Shared → Prop}
    (hcell : ∀ z ∈ scope.names, z.2 ≠ .cell) (hkind : scope.kind = .function) (hx : scope.names.lookup x = some .local)
    (hb1 : scope.names.lookup b1 = some .local) (hb2 : scope.names.lookup b2 = some .local) (hb3 : scope.names.lookup b3 = some .local) (hb4 : scope.names.lookup b4 = some .local)
    (hnd : (b1 ≠ b2 ∧ b1 ≠ b3 ∧ b1 ≠ b4 ∧ b2 ≠ b3 ∧ b2 ≠ b4 ∧ b3 ≠ b4) ∧ (x ≠ b1 ∧ x ≠ b2 ∧ x ≠ b3 ∧ x ≠ b4)) (hs2 : ∀ D, ∀ x, foldedSetIterable i2 (compEnvC scope cl D env) x = pure x)
    (h : TwSrc prog w A h₀ L m env c elt i2 x b1 b2 b3 b4 scope cl Fin xv s₁)
    (hRR : ∀ D C g h tk m' ys news, Fr h₀ L h m → News h₀ L h ((D, lst ys) :: news) → (∀ p ∈ news, p.1 ≠ D) → h.Ns C m' → h₀.get? C = none → h₀.get? D = none → C ≠ L → D ≠ L → C ≠ D → (∀ p ∈ news, p.1 ≠ C) → Fin { s₁ with heap := g } ys news → RR (.ref D) C (.ok .next) { s₁ with heap := h, toks := tk }) :
    wpAny (model prog w) A (pyIter xv) (fun it s₂ => wpAny (model prog w) A (newList []) (fun acc s₃ => wpAny (model prog w) A (newFunctionEnv scope env.globals cl [] env.qual none .none (some env)) (fun cenv s₄ =>
      codeAny (model prog w) A (.compStart (.ListComp elt [⟨.Name x px, iter, [], 0⟩, ⟨.Tuple [.Name b1 p1, .Name b2 p2, .Name b3 p3, .Name b4 p4] tk₀ tp, i2, [c], 0⟩] scope pos) 0 it acc { cenv with scope := relabel scope env }) (RR acc cenv.locals) s₄) E s₃) E s₂) E s₁ := by
  obtain ⟨ax, vs, k, bx, ws, kb, news, J, rfl, hh, F, N, hax, hbx, hz, hj, row, hit, turn, fin⟩ := h
  have hl : s₁.heap.IsList ax vs.toArray := ⟨_, (N _ hax).1, rfl, k, rfl⟩
  have hlt : ax < s₁.heap.objs.size := Heap.lt_size (N _ hax).1
  refine wpAny_pyIter_list hl ?_
  have hI₀ := next_is_new F
  have W := Walks.list (prog := prog) (w := w) hh s₁.heap.objs.size ax (Nat.ne_of_lt hlt) vs.toArray
  have up1 : ∀ b o, s₁.heap.get? b = some o → (s₁.heap.push { cls := .type "list_iterator", data := .fields #[.ref ax, .int 0 0] }).get? b = some o := fun b o e => Heap.get?_push_of_some _ e
  have F1 : Fr h₀ L (s₁.heap.push { cls := .type "list_iterator", data := .fields #[.ref ax, .int 0 0] }) m := F.keeps up1
  have N1 := N.grown up1
  have st1 : (s₁.heap.push { cls := .type "list_iterator", data := .fields #[.ref ax, .int 0 0] }).IsListIter s₁.heap.objs.size ax 0 := ⟨_, Heap.get?_push_size _ rfl, rfl, rfl⟩
  have offI : ∀ p ∈ news, p.1 ≠ s₁.heap.objs.size := fun p hp => Nat.ne_of_lt (Heap.lt_size (N p hp).1)
  have hLI : L ≠ s₁.heap.objs.size := Nat.ne_of_lt F.ns.lt
  generalize s₁.heap.push { cls := .type "list_iterator", data := .fields #[.ref ax, .int 0 0] } = H1 at *
  generalize s₁.heap.objs.size = I at *
  refine wpAny_newObj_type (wpAny_newFunctionEnv hcell (by intro y hy; simp at hy) (fun h₂ hn₂ hs₂ => ?_) hkind)
  dsimp only at hn₂ hs₂ ⊢
  have hD₀ : h₀.get? H1.objs.size = none := next_is_new F1
  have F2 : Fr h₀ L (H1.push { cls := .type "list", dict := none, data := .seq ([] : List Value).toArray }) m := F1.push _
  have hC₀ := next_is_new F2
  have sz2 : (H1.push { cls := .type "list", dict := none, data := .seq ([] : List Value).toArray }).objs.size = H1.objs.size + 1 := Heap.size_push ..
  rw [sz2] at hn₂ hs₂ hC₀ ⊢
  have gD : h₂.get? H1.objs.size = some (lst []) := hs₂.extBut _ _ (Nat.ne_of_lt (Nat.lt_succ_self _)) (Heap.get?_push_of_some _ (Heap.get?_push_size _ rfl))
  have up2 : ∀ b o, H1.get? b = some o → h₂.get? b = some o := fun b o e => hs₂.extBut _ _ (Nat.ne_of_lt (Nat.lt_succ_of_lt (Heap.lt_size e))) (Heap.get?_push_of_some _ (Heap.get?_push_of_some _ e))
  have F3 : Fr h₀ L h₂ m := F1.keeps up2
  have N3 := N1.grown up2
  have hLs : L < H1.objs.size := F1.ns.lt
  obtain ⟨oI, gI, cI, dI⟩ := st1
  have hIs : I < H1.objs.size := Heap.lt_size gI
  have st3 : h₂.IsListIter I ax 0 := ⟨oI, up2 _ _ gI, cI, dI⟩
  have offD : ∀ p ∈ news, p.1 < H1.objs.size := fun p hp => Heap.lt_size (N1 p hp).1
  generalize H1.objs.size = D at *
  have fresh : ∀ b, D ≤ b → h₀.get? b = none := fun b hb => Heap.get?_none_of_le (Nat.le_trans F1.above (Nat.le_trans (Nat.le_of_lt hLs) hb))
  have hID : (@Ne Nat I D) := Nat.ne_of_lt hIs
  have hIC : (@Ne Nat I (D + 1)) := Nat.ne_of_lt (Nat.lt_succ_of_lt hIs)
  have hCD : (@Ne Nat (D + 1) D) := by omega
  have hLD : (@Ne Nat L D) := Nat.ne_of_lt hLs
  have hLC : (@Ne Nat L (D + 1)) := Nat.ne_of_lt (Nat.lt_succ_of_lt hLs)
  obtain ⟨oC, gC, hC⟩ := ns_obj hn₂
  have N4 : News h₀ L h₂ ((D + 1, oC) :: (D, lst []) :: news) := List.forall_mem_cons.mpr ⟨⟨gC, Ne.symm hLC, hC₀⟩, List.forall_mem_cons.mpr ⟨⟨gD, Ne.symm hLD, hD₀⟩, N3⟩⟩
  have off3 : ∀ p ∈ news, p.1 ≠ I ∧ p.1 ≠ D + 1 ∧ p.1 ≠ D := fun p hp => ⟨offI p hp, Nat.ne_of_lt (Nat.lt_succ_of_lt (offD p hp)), Nat.ne_of_lt (offD p hp)⟩
  have hsz : vs.toArray.size = vs.length := List.size_toArray ..
  have loop : ∀ s₃ : Shared, (∃ tk, s₃ = { s₁ with heap := h₂, toks := tk }) →
      codeAny (model prog w) A (.compLoop (.ListComp elt [⟨.Name x px, iter, [], 0⟩, ⟨.Tuple [.Name b1 p1, .Name b2 p2, .Name b3 p3, .Name b4 p4] tk₀ tp, i2, [c], 0⟩] scope pos) 0 (.ref I) (.ref D) (compEnvC scope cl (D + 1) env)) (RR (.ref D) (D + 1)) s₃ := by
    rintro s₃ ⟨tk₃, rfl⟩
    refine codeAny_out (TwOut h₀ L m s₁ I ax (D + 1) D news ws.length vs.length J) ?_ (vs.length + 1) ⟨h₂, tk₃, 0, [], _, oC, rfl, Nat.zero_le _, rfl, Nat.zero_le _, st3, F3, hC, N4, hj⟩ (by intro _; rfl) (hs2 _)
    rintro n s' ⟨h', tk, i, ys, m', oC', rfl, hi, rfl, hyl, hst', F', hC', N', hJ⟩
    have hla : h'.IsList ax vs.toArray := ⟨_, (N' _ (.tail _ (.tail _ hax))).1, rfl, k, rfl⟩
    have offs : ∀ p ∈ (D + 1, oC') :: (D, lst ys) :: news, p.1 ≠ I := List.forall_mem_cons.mpr ⟨Ne.symm hIC, List.forall_mem_cons.mpr ⟨Ne.symm hID, fun p hp => (off3 p hp).1⟩⟩
    by_cases hlt2 : i < vs.length
    · refine W.item i _ _ _ (by rw [hsz]; exact hlt2) ⟨hst', hla⟩ fun v h₃ tk₃ hPv hst₃ hk₃ => ?_
      have hv : vs[i]? = some v := by simpa using hPv
      have F₃ := fr_but F' hk₃ hLI hI₀
      have N₃ : News h₀ L h₃ _ := news_but N' hk₃ offs
      have zC := N₃ _ (.head _)
      refine wpAny_assign_Name (wpAny_storeName_local (lookup_relabel_local hx) (NsObj.ns hC' zC.1) (fun h₄ hn₄ hs₄ => ?_) (by simp [compEnvC, relabel, hkind]))
      obtain ⟨oC4, gC4, hC4⟩ := ns_obj hn₄
      have F₄ := Fr.change F₃ hs₄ zC.2.1 zC.2.2
      have N₄ := forall_mem_at (News.sub N₃ fun q hq => .tail _ hq) hs₄ (List.forall_mem_cons.mpr ⟨Ne.symm hCD, fun p hp => (off3 p hp).2.1⟩)
      obtain ⟨oI3, gI3, cI3, dI3⟩ := hst₃.1
      have gI4 : h₄.get? I = some oI3 := hs₄.extBut _ _ hIC gI3
      have NI : News h₀ L h₄ ((I, oI3) :: (D + 1, oC4) :: (D, lst ys) :: news) := List.forall_mem_cons.mpr ⟨⟨gI4, Ne.symm hLI, hI₀⟩, List.forall_mem_cons.mpr ⟨⟨gC4, zC.2⟩, N₄⟩⟩
      refine wpAny_mono (hit I oI3 (D + 1) oC4 D ys _ h₄ _ _ hC4 F₄ NI) (fun y s' hy => ?_) fun _ _ e => e
      obtain ⟨rfl, rfl⟩ := hy
      have hlb : h₄.IsList bx ws.toArray := ⟨_, (NI _ (.tail _ (.tail _ (.tail _ hbx)))).1, rfl, kb, rfl⟩
      refine wpAny_pyIter_list hlb ?_
      dsimp only
      have up5 : ∀ b o, h₄.get? b = some o → (h₄.push { cls := .type "list_iterator", data := .fields #[.ref bx, .int 0 0] }).get? b = some o := fun b o e => Heap.get?_push_of_some _ e
      have offJ : ∀ p ∈ (I, oI3) :: (D + 1, oC4) :: (D, lst ys) :: news, p.1 ≠ h₄.objs.size := fun p hp => Nat.ne_of_lt (Heap.lt_size (NI p hp).1)
      have F₅ : Fr h₀ L (h₄.push { cls := .type "list_iterator", data := .fields #[.ref bx, .int 0 0] }) m := F₄.keeps up5
      have N₅ := NI.grown up5
      have st5 : (h₄.push { cls := .type "list_iterator", data := .fields #[.ref bx, .int 0 0] }).IsListIter h₄.objs.size bx 0 := ⟨_, Heap.get?_push_size _ rfl, rfl, rfl⟩
      have hI20 := next_is_new F₄
      have hLI2 : L ≠ h₄.objs.size := Nat.ne_of_lt F₄.ns.lt
      generalize h₄.push { cls := .type "list_iterator", data := .fields #[.ref bx, .int 0 0] } = H5 at *
      generalize h₄.objs.size = I2 at *
      have hmul : i * ws.length + ws.length ≤ 900 := by
        have a := Nat.mul_le_mul_right ws.length hlt2
        rw [Nat.succ_mul] at a
        exact Nat.le_trans a hz.1
      refine two_in (J i) (oI := oI3) (v := v) (ws := ws) (b := i * ws.length) (bx := bx) (kb := kb) (news := news) hkind hb1 hb2 hb3 hb4 hnd hh hbx (by omega) ⟨hLI2, hI20⟩ ⟨offJ _ (.head _), offJ _ (.tail _ (.head _)), offJ _ (.tail _ (.tail _ (.head _))), hIC, hID, hCD⟩ (fun p hp => ⟨(off3 p hp).1, (off3 p hp).2.1, (off3 p hp).2.2, offJ _ (.tail _ (.tail _ (.tail _ hp)))⟩) ?_ st5 F₅ hC4 (by simp) N₅ hyl hJ ?_
      · intro j w₀ ys hw hJj
        obtain ⟨t, v₁, v₂, v₃, v₄, e1, e2, T⟩ := turn i j v w₀ ys hv hw hJj
        exact ⟨t, v₁, v₂, v₃, v₄, e1, e2, fun oC oI2 m₂ h tk E' hC hx h1 h2 h3 h4 F N => T I oI3 (D + 1) D I2 oC oI2 m₂ h tk E' hC hx h1 h2 h3 h4 F N (List.forall_mem_cons.mpr ⟨⟨Ne.symm (offJ _ (.head _)), Ne.symm (offJ _ (.tail _ (.head _))), Ne.symm (offJ _ (.tail _ (.tail _ (.head _))))⟩, off3⟩) ⟨hIC, hID, hCD⟩⟩
      · intro h' tk' ys' m' oC' F N5' N hl hJ
        refine ⟨vs.length + 1 - (i + 1), by omega, h', tk', i + 1, ys', m', oC', rfl, hlt2, rfl, by rw [Nat.succ_mul]; exact hl, ⟨oI3, (N _ (.head _)).1, cI3, dI3⟩, F, N5', News.sub N fun q hq => .tail _ hq, row i ys' hJ⟩
    · obtain rfl : i = vs.length := Nat.le_antisymm hi (Nat.not_lt.mp hlt2)
      refine W.done _ _ _ (by rw [hsz]; exact ⟨hst', hla⟩) fun h₃ tk₃ hk₃ => ?_
      have F₃ := fr_but F' hk₃ hLI hI₀
      have N₃ : News h₀ L h₃ _ := news_but N' hk₃ offs
      have zC := N₃ _ (.head _)
      exact hRR D (D + 1) s₁.heap h₃ tk₃ m' ys news F₃ (News.sub N₃ fun q hq => .tail _ hq) (fun p hp => (off3 p hp).2.2) (NsObj.ns hC' zC.1) zC.2.2 hD₀ (Ne.symm hLC) (Ne.symm hLD) hCD (fun p hp => (off3 p hp).2.1) (fin _ ys hJ)
  exact codeAny_compStart_list (loop _ ⟨_, rfl⟩) (W.self 0 _ _ _ ⟨st3, ⟨_, (N3 _ hax).1, rfl, k, rfl⟩⟩ (loop _ ⟨_, rfl⟩))
theorem off1_of {D : Addr} : ∀ {l : List (Addr × Obj)}, (∀ p ∈ l, p.1 ≠ D) → PyProof.Rows.LCg.Off1 D l
  | [], _ => trivial
  | x :: _, h => ⟨h x (.head _), off1_of fun p hp => h p (.tail _ hp)⟩
theorem asg_two {elt iter i2 c : PySem.Expr} {x y b1 b2 b3 b4 : Str} {px py p1 p2 p3 p4 tp : Pos} {tk₀} {scope : Scope} {cl : List (Str × Addr)} {pos spos : Pos} {Q : Flow → Shared → Prop} (_F : Fr h₀ L s.heap m) (hLe : env.locals = L)
    (hsw : swapsWith (.ListComp elt [⟨.Name x px, iter, [], 0⟩, ⟨.Tuple [.Name b1 p1, .Name b2 p2, .Name b3 p3, .Name b4 p4] tk₀ tp, i2, [c], 0⟩] scope pos) (some (.Name y py)) spos.line env = pure true)
    (hclos : closureFor scope env = pure cl) (hcell : ∀ z ∈ scope.names, z.2 ≠ .cell) (hkind : scope.kind = .function)
    (hnames : ∀ z ∈ scope.names, z.2 = .local → scope.names.lookup z.1 = some .local) (hx : scope.names.lookup x = some .local)
    (hb1 : scope.names.lookup b1 = some .local) (hb2 : scope.names.lookup b2 = some .local) (hb3 : scope.names.lookup b3 = some .local) (hb4 : scope.names.lookup b4 = some .local)
    (hnd : (b1 ≠ b2 ∧ b1 ≠ b3 ∧ b1 ≠ b4 ∧ b2 ≠ b3 ∧ b2 ≠ b4 ∧ b3 ≠ b4) ∧ (x ≠ b1 ∧ x ≠ b2 ∧ x ≠ b3 ∧ x ≠ b4)) (hs2 : ∀ D, ∀ x, foldedSetIterable i2 (compEnvC scope cl D env) x = pure x)
    (hy : env.kindOf y = some .local) (hp : (env.scope.kind == .class || (env.scope.kind == .module && env.locals != env.globals)) = false)
    (h : wpAny (model prog w) A (eval iter env) (TwSrc prog w A h₀ L m env c elt i2 x b1 b2 b3 b4 scope cl fun s₂ => FinA h₀ L m s₂ y Q) E s)
    (hs : ∀ x, foldedSetIterable iter env x = pure x := by intro _; rfl) :
    wpAny (model prog w) A (exec (.Assign [.Name y py] (.ListComp elt [⟨.Name x px, iter, [], 0⟩, ⟨.Tuple [.Name b1 p1, .Name b2 p2, .Name b3 p3, .Name b4 p4] tk₀ tp, i2, [c], 0⟩] scope pos) spos) env) Q E s := by
  subst hLe
  rw [exec_Assign_Name_used _ _ _ _ hsw]
  refine wpAny_bind (wpAny_standAt (wpAny_bind ?_))
  show wpAny _ A (do let _ ← comprehension (.ListComp elt [⟨.Name x px, iter, [], 0⟩, ⟨.Tuple [.Name b1 p1, .Name b2 p2, .Name b3 p3, .Name b4 p4] tk₀ tp, i2, [c], 0⟩] scope pos) scope env _ (newList []) false (eval iter env) (some (assign (.Name y py) env))) _ _ s
  refine wpAny_bind (wpAny_mono (wpAny_comprehension_free (use := some (assign (.Name y py) env)) (Q := fun _ s' => Q .next s') rfl hs hclos hkind hnames
    (wpAny_mono h (fun xv s₁ h₁ => ?_) fun _ _ e => e)) (fun _ s' hq => wpAny_pure (wpAny_pure hq)) fun _ _ e => e)
  refine two_block (RR := compPost (model prog w) A E (some (assign (.Name y py) env)) (fun _ s' => Q .next s')) hcell hkind hx hb1 hb2 hb3 hb4 hnd hs2 h₁ ?_
  intro D C g h' tk m' ys news' F' N' o1 hn hC₀ hD₀ hCL hDL hCD offC fin
  show wpAny _ A (assign (.Name y py) env (.ref D)) _ _ _
  refine wpAny_assign_Name (wpAny_storeName_local hy F'.ns (fun h₂ hn₂ hs₂ => ?_) hp)
  have hL₀ : h₀.get? env.locals = none := Heap.get?_none_of_le F'.above
  have F₂ : Fr h₀ env.locals h₂ (fun z => if z = y then some (.ref D) else m z) := ⟨hn₂, fun b o e => hs₂.extBut b o (fun q => by rw [q, hL₀] at e; cases e) (F'.keep b o e), F'.above⟩
  refine ⟨m', hn.sameBut hs₂ hCL, fun h'' hs'' => fin D h'' _ (F₂.change hs'' hCL hC₀) (fun p hp => ?_) (off1_of o1)⟩
  have z : h₂.get? p.1 = some p.2 := hs₂.extBut _ _ (N' p hp).2.1 (N' p hp).1
  refine ⟨hs''.extBut _ _ ?_ z, (N' p hp).2⟩
  rcases List.mem_cons.mp hp with rfl | hp
  · exact Ne.symm hCD
  · exact offC p hp
end
end Mine

-- A COMPILED PATTERN OF ONE SET OF SIGNS, SEARCHED IN A TEXT THAT HAS NONE OF THEM
namespace Mine
open PySem PySem.Builtin PySem.Builtin.Re
def codeN : Array Nat := #[14, 10, 4, 1, 1, 22, 0, 31, 16, 127, 0, 13, 7, 22, 0, 31, 16, 127, 0, 1]
def codeV : Array Nat := #[14, 14, 4, 1, 1, 9, 4294966783, 0, 0, 2147483648, 0, 0, 0, 0, 0, 13, 11, 9, 4294966783, 0, 0, 2147483648, 0, 0, 0, 0, 0, 1]
def okN (c : Nat) : Bool := 32 ≤ c && c < 127
def okV (c : Nat) : Bool := (32 ≤ c || c == 9) && c < 127
theorem setN {c : Nat} (h : okN c = true) (seen : Sre.Seen) : ∃ seen', Sre.inSet codeN c codeN.size 5 true seen = .ok (false, seen') := by
  simp only [okN, Bool.and_eq_true, decide_eq_true_eq] at h
  have e1 : ¬ (decide (0 ≤ c) && decide (c ≤ 31)) = true := by simp; omega
  have e2 : ¬ (c == 127) = true := by simp; omega
  refine' ⟨?w, ?h⟩
  case h =>
    refine (show Sre.inSet codeN c codeN.size 5 true seen = (if (decide (0 ≤ c) && decide (c ≤ 31)) = true then _ else Sre.inSet codeN c 19 8 true _) from rfl).trans ((if_neg e1).trans ?_)
    refine (show Sre.inSet codeN c 19 8 true _ = (if (c == 127) = true then _ else Sre.inSet codeN c 18 10 true _) from rfl).trans ((if_neg e2).trans ?_)
    exact rfl
theorem bitV : ∀ c, c < 128 → okV c = true → (codeV.getD (5 + (1 + c / 32)) 0).testBit (c % 32) = false := by decide +kernel
theorem setV {c : Nat} (h : okV c = true) (seen : Sre.Seen) : ∃ seen', Sre.inSet codeV c codeV.size 5 true seen = .ok (false, seen') := by
  have h2 : c < 128 := by simp only [okV, Bool.and_eq_true, decide_eq_true_eq] at h; omega
  have e1 : ¬ (decide (c < 256) && (codeV.getD (5 + (1 + c / 32)) 0).testBit (c % 32)) = true := by rw [bitV c h2 h]; simp
  refine' ⟨?w, ?h⟩
  case h =>
    refine (show Sre.inSet codeV c codeV.size 5 true seen = (if (decide (c < 256) && (codeV.getD (5 + (1 + c / 32)) 0).testBit (c % 32)) = true then _ else Sre.inSet codeV c 27 14 true _) from rfl).trans ((if_neg e1).trans ?_)
    exact rfl
def NoneIn (code : Array Nat) (text : Array Nat) : Prop := ∀ i, i < text.size → ∀ seen, ∃ seen', Sre.inSet code (text.getD i 0) code.size 5 true seen = .ok (false, seen')
theorem none_adm {m : Sre.M} (h : NoneIn m.code m.text) (hl : m.lim ≤ m.text.size) : ∀ (fuel s : Nat) (seen : Sre.Seen), ∃ seen', Sre.M.admitted m fuel s seen = .ok (none, seen')
  | 0, s, seen => ⟨seen, rfl⟩
  | fuel + 1, s, seen => by
    rw [Sre.M.admitted.eq_def]
    dsimp only
    split
    · exact ⟨seen, rfl⟩
    · rename_i hs
      obtain ⟨seen', e⟩ := h s (by omega) seen
      rw [e]
      exact none_adm h hl fuel (s + 1) seen'
def SaidNo (m : Sre.M) : Prop := m.answer = some false ∧ m.frames = [] ∧ m.outcome = none
theorem from_no {m : Sre.M} {s : Nat} (hf : m.hasFirstSet = true) (h : NoneIn m.code m.text) (hl : m.lim ≤ m.text.size) (h1 : m.frames = []) (h2 : m.outcome = none) : SaidNo (m.attemptFrom s true) := by
  obtain ⟨seen', e⟩ := none_adm h hl (m.lim + 1 - s) s m.seen
  unfold Sre.M.attemptFrom
  rw [hf, e]
  exact ⟨rfl, h1, h2⟩
theorem search_no {code text : Array Nat} (hf : ((match Sre.ops[code.getD 0 0]? with | some .INFO => true | _ => false) && code.getD 2 0 == 4) = true) (h : NoneIn code text) : SaidNo (Sre.forSearch code text 0 0 text.size false) := by
  unfold Sre.forSearch
  dsimp only
  split
  · exact ⟨rfl, rfl, rfl⟩
  · exact from_no hf h (Nat.le_refl _) rfl rfl
theorem run_no {m : Sre.M} (h : SaidNo m) : m.runFor 4 = { m with outcome := some .failed } := by
  obtain ⟨h1, h2, h3⟩ := h
  have st : m.step = { m with outcome := some .failed } := by
    unfold Sre.M.step
    rw [h3, h1, h2]
    rfl
  rw [Sre.M.runFor.eq_def]; dsimp only
  rw [h3]
  simp only [Option.isSome_none, Bool.false_eq_true, if_false]
  rw [st, Sre.M.runFor.eq_def]; rfl
section
variable {prog : Program} {w : World} {A : Around} {E : Value → Shared → Prop} {s : Shared}
theorem reRun_no {m : Sre.M} {Q : Option Sre.M → Shared → Prop} (h : SaidNo m) (hq : Q none s) : wpAny (model prog w) A (reRunToEnd m) Q E s := by
  have e := run_no h
  unfold reRunToEnd
  refine wpAny_bind ?_
  rw [show (2 : Nat) ^ 64 = (2 ^ 64 - 1) + 1 from rfl, reDrive.eq_def]
  dsimp only
  rw [show reTurnSteps = 4 from rfl, e]
  simp only [Option.isSome_some, if_true]
  refine wpAny_pure ?_
  refine wpAny_bind (wpAny_forIn_list _ (fun _ _ s' => s' = s) _ ?_ ?_ _ _ rfl)
  · rintro x rest b s' rfl
    dsimp only
    split
    · exact wpAny_bind (wpAny_rule (wpAny_pure rfl))
    · exact wpAny_pure rfl
  · rintro b s' rfl
    exact wpAny_pure hq
theorem sre_slot : Slot "re.Pattern" "search" "re.Pattern.search" :=
  .of (owner := "re.Pattern") (n := "search") (by rw [typeLookup_type, builtinLookup_eq_fast]; kernel_rfl) (by decide +kernel) (by decide +kernel) (by decide +kernel)
    (by first | exact .inl (by decide +kernel) | exact .inr (by decide +kernel)) (by rw [isSubtype_type]; kernel_rfl)
theorem sre_entry : entryFor table "re.Pattern.search" = some Builtin.«re.Pattern.search» := entryFor_of_fast (by kernel_rfl)
theorem sre_args (a b : Value) : argsOk "re.Pattern.search" ⟨[a, b], []⟩ := by unfold argsOk; kernel_rfl
theorem sre_named (x : Value) : reNamed "re.Pattern.search" "search" ["string", "pos", "endpos"] 1 [x] [] = pure [some x, none, none] := by with_unfolding_all rfl
theorem sre_search (code : Array Nat) {pa ca : Addr} {pv fl : Value} {t0 : Tok} {cv : Array Value} {n : Nat} {x : Str} {t : Tok} {Q : Value → Shared → Prop}
    (hp : s.heap.get? pa = some { cls := .type "re.Pattern", data := .fields #[pv, fl, .int 0 t0, .none, .none, .ref ca, .int 0 t0] }) (hc : s.heap.get? ca = some { cls := .type "tuple", data := .seq cv n })
    (he : (cv.map reRawOf).map (·.toNat) = code) (hf : ((match Sre.ops[code.getD 0 0]? with | some Sre.Op.INFO => true | _ => false) && code.getD 2 0 == 4) = true) (h : NoneIn code x.cps) (hx : x.length < 2 ^ 60)
    (hq : Q .none s) : wpAny (model prog w) A (call (.builtin "re.Pattern.search") [.ref pa, .str x t]) Q E s := by
  refine wpAny_call_entry sre_slot ⟨_, hp, rfl⟩ sre_entry ?_ (sre_args _ _)
  unfold Builtin.«re.Pattern.search» reTarget
  dsimp only
  rw [sre_named]
  have e : Min.min ((2 ^ 63 - 1 : Int)).toNat x.cps.size = x.cps.size := by
    have : x.cps.size < 2 ^ 60 := hx
    omega
  have key : SaidNo (Sre.forSearch ((cv.map reRawOf).map (·.toNat)) x.cps 0 (Min.min (Int.toNat 0) x.cps.size) (Min.min ((2 ^ 63 - 1 : Int)).toNat x.cps.size) false) := by
    rw [e, show Int.toNat 0 = 0 from rfl, Nat.zero_min]
    rw [he]; exact search_no hf h
  repeat (any_goals (first | (with_reducible refine wpAny_fieldsOf hp rfl ?_) | ((with_reducible show wpAny _ _ (reRunToEnd _) _ _ _); refine reRun_no key ?_) | wp_step))
  exact ⟨_, rfl, hq⟩
theorem plainAttrs_pat : PlainAttrs "re.Pattern" :=
  ⟨⟨"object.__getattribute__", by rw [typeLookup_type, builtinLookup_eq_fast]; kernel_rfl, by decide +kernel⟩, by rw [typeLookup_type, builtinLookup_eq_fast]; kernel_rfl⟩
theorem type_search : typeOf (.builtin "re.Pattern.search") = pure (.type "method_descriptor") := by show builtinType _ = _; rw [builtinType_eq_fast]; kernel_rfl
theorem getMethod_pat {pa : Addr} {o : Obj} {pl : Sem Bool} {Q : Value × List Value → Shared → Prop} (hp : s.heap.get? pa = some o) (hc : o.cls = .type "re.Pattern") (hd : o.dict = none) (h : Q (.builtin "re.Pattern.search", [.ref pa]) s) :
    wpAny (model prog w) A (getMethod (.ref pa) "search" pl) Q E s :=
  getMethod_builtin ⟨o, hp, hc⟩ plainAttrs_pat sre_slot type_search (fun a e => by cases e; exact ⟨o, hp, hd⟩) h
theorem none_of {code : Array Nat} {x : Str} (ok : Nat → Bool) (hs : ∀ c, ok c = true → ∀ seen, ∃ seen', Sre.inSet code c code.size 5 true seen = .ok (false, seen')) (h : ∀ c ∈ x.cps.toList, ok c = true) : NoneIn code x.cps := fun i hi seen => by
  refine hs _ (h _ ?_) seen
  rw [Array.getD_eq_getD_getElem?, Array.getElem?_eq_getElem hi]
  exact Array.getElem_mem_toList ..
end
end Mine

-- A DEF WITH **kw ENTERED: the dict of the further words is a new ledger entry
namespace Mine
open PySem.Calls
section
variable {prog : Program} {w : World} {A A₀ : Around} {E : Value → Shared → Prop} {s : Shared} {K : Frag} {L : Addr} {h₀ base : Heap} {m mg mb : Str → Option Value} {p : Program} {loose : List Str} {mean : ExcName → Option Value}
theorem enter_kw {env : Env} {outer : List Env} {R : Result → Shared → Prop} {name qual : Str} {params : Arguments} {body : List Stmt} {scope : Scope} {dV kV doc pm cdv ct oc : Value} {an od : Option Addr} {osl : Array (Option Value)} {f : Addr} {args : Args} {nm : Str} {ex front : List (Str × Value)} {g₁ : Addr → Sem (List (Str × Value))} {news known : List (Addr × Obj)}
    (B : Below A₀ base outer h₀) (F : Fr h₀ L s.heap m) (X₀ : K.In h₀) (N : News h₀ L s.heap news) (T : Top p loose mean mg mb h₀) (hsub : ∀ q ∈ known, q ∈ news) (hA : A.frames = some (env :: outer)) (hf : env.frame = some L) (hke : env.scope.kind = .function)
    (ho : K.lookup f = some ⟨oc, od, .func (fnOf name qual params body scope dV kV doc pm an cdv ct), osl⟩) (hcd : codeIn K cdv qual = true) (hroom : A.depth < recursionLimit)
    (hn : (ex.map (·.1)).Nodup)
    (hp : peekA K ⟨prog, w.params⟩ (bindArgs (fnOf name qual params body scope dV kV doc pm an cdv ct) args) = some (dictOf [] 0, g₁))
    (hk₁ : ∀ D, g₁ D = (forIn ex PUnit.unit (fun x _ => (nsSet D x.1 x.2 >>= fun _ => pure (ForInStep.yield PUnit.unit))) >>= fun _ => pure (front ++ [(nm, Value.ref D)])))
    (hloc : ∀ D, ∀ y ∈ front ++ [(nm, Value.ref D)], scope.names.lookup y.1 = some .local)
    (h : ∀ D g L' h₁ h₂ tk, (∀ q ∈ news, q.1 < D) → (D == sysModules) = false → Fr h₀ L h₁ m → News h₀ L h₁ ((D, dictOf (kwEs w.params s.toks ex) ex.length) :: news) →
      Keeps (((D, dictOf (kwEs w.params s.toks ex) ex.length) :: known).map (·.1)) h₁ g → Fr g L' h₂ (fun y => (front ++ [(nm, Value.ref D)]).reverse.lookup y) → News g L' h₂ ((D, dictOf (kwEs w.params s.toks ex) ex.length) :: known) → Below A base (env :: outer) g → K.In g → Top p loose mean mg mb g → 0 < tk →
      wpAny (model prog w) (A.deeper (envOf qual scope L' f cdv)) (execs body (envOf qual scope L' f cdv))
        (fun fl s' => R (.ok (.ret (match fl with | .ret v => v | _ => .none))) s') (fun _ _ => False)
        { s with heap := h₂, toks := tk })
    (hco : scope.isCoroutine = false) (hgen : scope.isGenerator = false) (hk : scope.kind = .function)
    (hcell : ∀ x ∈ scope.names, x.2 ≠ .cell) : codeAny (model prog w) A (.call (.ref f) args) R s := by
  refine codeAny_call_function (fd := fnOf name qual params body scope dV kV doc pm an cdv ct) (body := body) hroom ((X₀.keeps F.keep) _ _ ho) rfl hco hgen rfl (codeRec_of (X₀.keeps F.keep) hcd) ?_
  refine wp_of_peekA (o := dictOf [] 0) F N (X₀.keeps F.keep) rfl _ g₁ hp fun h' F' N' l => ?_
  rw [hk₁]
  refine wpAny_bind (kp_fill ex { s with heap := h' } [] 0 F' N' (fun p hp => Nat.ne_of_lt (l p hp)) (fun _ he => nomatch he) (fun _ he => nomatch he) hn fun h'' F'' N'' => wpAny_pure ?_)
  rw [List.nil_append, Nat.zero_add] at N''
  have N3 := News.sub N'' (news' := (s.heap.objs.size, dictOf (kwEs w.params s.toks ex) ex.length) :: known) (sub_cons (.head _) fun q hq => .tail _ (hsub q hq))
  obtain ⟨FG, BG, st, _⟩ := groundX (s := { s with heap := h'', toks := s.toks + ex.length }) (R := R) B F'' N3 hA hf hke
  refine wpAny_newFunctionEnv hcell (hloc _) (fun h₁ hns hsb => ⟨(T.nolimit.keeps F''.keep).fresh _ hsb, codeAny_func ?_⟩) hk
  have hk₁ : ∀ b o, h''.get? b = some o → h₁.get? b = some o := fun b o e => hsb.extBut b o (Nat.ne_of_lt (Heap.lt_size e)) (Heap.get?_push_of_some _ e)
  show wpAny (model prog w) (A.deeper (envOf qual scope h''.objs.size f cdv)) (execs body (envOf qual scope h''.objs.size f cdv)) _ _ _
  refine wpAny_mono (h s.heap.objs.size (hideAll h'' (((s.heap.objs.size, dictOf (kwEs w.params s.toks ex) ex.length) :: known).map (·.1))) h''.objs.size h'' h₁ _ l (F.notModules (modules_low T.nolimit)) F'' N'' (fun b o e n => hideAll_get _ e n) ⟨hns, fun b o e => hk₁ b o (of_hideAll _ e), Nat.le_of_eq (hideAll_size _ _)⟩
    (fun p hp => ⟨hk₁ _ _ (N3 p hp).1, Nat.ne_of_lt (Heap.lt_size (N3 p hp).1), hideAll_none _ (List.mem_map_of_mem hp)⟩) BG (X₀.keeps fun b o e => st b o e) (T.keeps fun b o e => st b o e) ?_) (fun fl s' hl => hl) fun _ _ y => y.elim
  show 0 < s.toks + ex.length + (front ++ [(nm, Value.ref _)]).length
  rw [List.length_append, List.length_singleton]; omega
end
end Mine

local macro_rules | `(tactic| k_upd) => `(tactic| (with_reducible show Mine.UpdS _ _ _); first | exact Mine.UpdS.nil | (refine' Mine.UpdS.hit ?a ?b; (case a => k_memK); (case b => k_upd)) | (refine' Mine.UpdS.skip ?a ?b; (case a => k_all); (case b => k_upd)) | (refine' Mine.UpdS.own ?a; (case a => (repeat (first | exact List.forall_mem_nil _ | (refine' List.forall_mem_cons.mpr ⟨?a1, ?_⟩; (case a1 => k_all)))))))
local macro_rules | `(tactic| walk_at "ѐ") => `(tactic| first | (simp only [List.length_nil, List.length_cons]; omega) | omega)
local macro_rules | `(tactic| walk_at "ё") => `(tactic| (try simp only [List.isEmpty_nil, List.isEmpty_cons, Bool.not_true, Bool.not_false]))
local macro_rules | `(tactic| walk_at "truthy ref") => Mine.ln `Mine.truthy_L 3 0 true "AaBmCѐ" none 0 0 "Ia Tё"
local macro_rules | `(tactic| walk_at "ђ") => `(tactic| exact BindsTo.of_eq rfl)
local macro_rules | `(tactic| walk_at "ѓ") => `(tactic| decide +kernel)
local macro_rules | `(tactic| kc_enter) => Mine.ln2 `Mine.enter_cells 0 14 3 true "FfGfHsAaBaCaDaEaIiJiKrLђMfNѓOfPfQf"
local macro_rules | `(tactic| walk_at "delItem ref") => do
  let g := (some (← `(term| wpAny _ _ (delItem (Value.ref _) _) _ _ _)))
  Mine.ln `Mine.delItem_own 6 0 true "AaBaCIEiFiDi" g 0 0 ""
local macro_rules | `(tactic| walk_at "exec While Compare cons nil") => Mine.ln `Mine.while_stop 0 0 false "" none 0 0 ""
local macro_rules | `(tactic| walk_at "WPost") => `(tactic| dsimp only [Mine.WPost])
local macro_rules | `(tactic| walk_at "ite") => `(tactic| (k_here; first | (refine Mine.ite_yes (by with_reducible assumption) ?_) | (refine Mine.ite_noB (by with_reducible assumption) ?_)))
local macro_rules | `(tactic| walk_at "є") => `(tactic| first | omega | (simp only [List.length_nil, List.length_cons]; omega))
local macro_rules | `(tactic| walk_at "call builtin:len") => do
  let g := (some (← `(term| wpAny _ _ (call (Value.builtin "len") [Value.ref _]) _ _ _)))
  Mine.ln `Mine.len_L 3 0 true "AaBmCє" g 0 0 "Iab"
local macro_rules | `(tactic| walk_at "binaryOp Add ref ref") => Mine.ln `Mine.add_LL 5 0 true "AaBaCmDmEo" none 0 0 "Iabcde Le W"
theorem Mine.tt_p_lx : True := by w_top off; exact trivial
namespace Mine
-- U-WHOLE
-- THE LEXER: what `read` does is a premise (ReadsOk), proved at the top where its def stands written
inductive SgAre : List Value → List Nat → Prop where
  | nil : SgAre [] []
  | cons {c : Nat} {t : Tok} {vs : List Value} {cs : List Nat} : SgAre vs cs → SgAre (.str ⟨#[c]⟩ t :: vs) (c :: cs)
theorem SgAre.length {vs : List Value} {cs : List Nat} (h : SgAre vs cs) : vs.length = cs.length := by
  induction h with
  | nil => rfl
  | cons _ ih => rw [List.length_cons, List.length_cons, ih]
def headStr : List Nat → Str
  | [] => ""
  | c :: _ => ⟨#[c]⟩
def ReadsOk (prog : Program) (w : World) (K : Frag) (p : Program) (loose : List Str) (mean : ExcName → Option Value) (mg mb : Str → Option Value) (rf sg : Addr) (own : List (Addr × Obj)) : Prop :=
  ∀ (dp un : Nat) (gd : Option (List Code)) (cn : Str) (cs : Scope) (a : Addr) (ccd : Value) (cl : List (Str × Addr)) (outer : List Env) (A₀ : Around) (base h₀ : Heap) (L : Addr) (m : Str → Option Value) (news : List (Addr × Obj)) (s : Shared) (Q E : Value → Shared → Prop)
    (svs : List Value) (chs : List Nat) (k : Nat) (t : Tok),
    Below A₀ base outer h₀ → Fr h₀ L s.heap m → K.In h₀ → News h₀ L s.heap news → Top p loose mean mg mb h₀ → cs.kind = .function → dp + 3 < recursionLimit →
    (∀ p ∈ own, p ∈ news) → (sg, W.listOf svs.toArray k) ∈ news → SgAre svs chs → chs.length ≤ 1000 →
    (∀ tk h' tk' svs' k', Fr h₀ L h' m → Keeps [sg] s.heap h' → News h₀ L h' [(sg, W.listOf svs'.toArray k')] → SgAre svs' chs.tail → Q (.str (headStr chs) tk) { s with heap := h', toks := tk' }) →
    wpAny (model prog w) (ktrTop dp un gd cn cs L a ccd cl outer) (call (.ref rf) [.int 1 t]) Q E s
def IsReadDict (o : Obj) (rf : Addr) : Prop := ∃ es ep, o.data = .dict es ep ∧ StrKeys es ∧ UniqKeys es ∧ ∀ name, nsFind es name = if name = Str.ofString "read" then some (.ref rf) else none
abbrev fnObj (sd : Option Addr) (fd : FuncData) (sl : Array (Option Value)) : Obj := ⟨.type "function", sd, .func fd, sl⟩
theorem ReadsOk.mono {prog : Program} {w : World} {K : Frag} {p : Program} {loose : List Str} {mean : ExcName → Option Value} {mg mb : Str → Option Value} {rf sg : Addr} {own own' : List (Addr × Obj)} (hR : ReadsOk prog w K p loose mean mg mb rf sg own) (k : ∀ q ∈ own, q ∈ own') : ReadsOk prog w K p loose mean mg mb rf sg own' :=
  fun dp un gd cn cs a ccd cl outer A₀ base h₀ L m news s Q E svs chs kk t B F X N T hk hd ho hm hs hl ret => hR dp un gd cn cs a ccd cl outer A₀ base h₀ L m news s Q E svs chs kk t B F X N T hk hd (fun q hq => ho q (k q hq)) hm hs hl ret
section
variable {prog : Program} {w : World} {A : Around} {E : Value → Shared → Prop} {s : Shared} {h₀ : Heap} {L : Addr} {news : List (Addr × Obj)}
theorem fn_read {st sd rf : Addr} {fd : FuncData} {sl : Array (Option Value)} {oS : Obj} {pl : Sem Bool} {Q : Value × List Value → Shared → Prop} (N : News h₀ L s.heap news) (m1 : (st, (⟨.type "function", some sd, .func fd, sl⟩ : Obj)) ∈ news) (m2 : (sd, oS) ∈ news) (hr : IsReadDict oS rf)
    (h : ∀ tk, Q (.ref rf, []) { s with toks := tk }) : wpAny (model prog w) A (getMethod (.ref st) "read" pl) Q E s := by
  obtain ⟨es, ep, a1, a2, a3, a4⟩ := hr
  exact fn_getmethod (mA := fun name => if name = Str.ofString "read" then some (.ref rf) else none) fn_lk_read (N _ m1).1 ⟨oS, es, ep, (N _ m2).1, a1, a2, a3, a4⟩ (if_pos rfl) rfl (h _)
end
abbrev lexDict (P : Params) (ws : Str) (ln : Int) (st pb : Addr) (t1 t2 t3 t4 t5 t6 : Tok) : Obj :=
  dictOf [⟨PyData.keyHash P "lineno", .str "lineno" t1, .int ln t5⟩, ⟨PyData.keyHash P "instream", .str "instream" t2, .ref st⟩, ⟨PyData.keyHash P "whitespace", .str "whitespace" t3, .str ws t6⟩, ⟨PyData.keyHash P "pushback", .str "pushback" t4, .ref pb⟩] 4
theorem ReadsOk.useS {prog : Program} {w : World} {K : Frag} {p : Program} {loose : List Str} {mean : ExcName → Option Value} {mg mb : Str → Option Value} {rf sg : Addr} {own : List (Addr × Obj)} (hR : ReadsOk prog w K p loose mean mg mb rf sg own)
  {dp un : Nat} {gd : Option (List Code)} {cn : Str} {cs : Scope} {a : Addr} {ccd : Value} {cl : List (Str × Addr)} {outer : List Env} {A₀ : Around} {base h₀ : Heap} {L : Addr} {m : Str → Option Value} {news : List (Addr × Obj)} {s : Shared} {Q E : Value → Shared → Prop} {svs : List Value} {chs : List Nat} {k : Nat} {t : Tok}
  (B : Below A₀ base outer h₀) (F : Fr h₀ L s.heap m) (X : K.In h₀) (N : News h₀ L s.heap news) (T : Top p loose mean mg mb h₀) (hk : cs.kind = .function) (hd : dp + 3 < recursionLimit) (ho : ∀ p ∈ own, p ∈ news) (hm : (sg, W.listOf svs.toArray k) ∈ news) (hs : SgAre svs chs) (hl : chs.length ≤ 1000)
  (ret : ∀ tk h' tk' svs' k', SgAre svs' chs.tail → ∃ news', UpdS [(sg, W.listOf svs'.toArray k')] news news' ∧ (Fr h₀ L h' m → News h₀ L h' news' → Q (.str (headStr chs) tk) { s with heap := h', toks := tk' })) :
  wpAny (model prog w) (ktrTop dp un gd cn cs L a ccd cl outer) (call (.ref rf) [.int 1 t]) Q E s :=
  hR dp un gd cn cs a ccd cl outer A₀ base h₀ L m news s Q E svs chs k t B F X N T hk hd ho hm hs hl fun tk h' tk' svs' k' F' K' N' S' =>
    let ⟨_, u, r⟩ := ret tk h' tk' svs' k' S'
    r F' (News.updS u N K' N')
local macro_rules | `(tactic| walk_at "getMethod ref") => Mine.ln `Mine.fn_read 4 0 false "AaBmCmDs" none 0 0 "Ia D F"
local macro_rules | `(tactic| walk_at "α") => `(tactic| (refine' FnAt.of ?a ?b; (case a => k_asm); (case b => k_mem)))
local macro_rules | `(tactic| walk_at "callWith ref") => Mine.ln `callWith_F 1 0 true "Aα" none 0 0 ""
local macro_rules | `(tactic| walk_at "call ref") => Mine.ln `Mine.ReadsOk.useS 12 0 false "AsBaCaDaEaFaGkISJmKsLsHr" none 0 9 "Iabcdef U Igh D F"
section
variable {w : World} {dp un : Nat} {gd : Option (List Code)} {cn : Str} {cs : Scope} {a : Addr} {ccd : Value} {cl : List (Str × Addr)} {outer : List Env} {A₀ : Around} {base h₀ : Heap} {L : Addr} {m mg mb : Str → Option Value} {p : Program} {loose : List Str} {mean : ExcName → Option Value} {s : Shared} {Q E : Value → Shared → Prop}
theorem read_char_code {R : Result → Shared → Prop} {ws : Str} {x d st sd rf sg pb : Addr} {fd fdR : FuncData} {slR sl : Array (Option Value)} {oS : Obj} {ln : Int} {t1 t2 t3 t4 t5 t6 : Tok} {own : List (Addr × Obj)} {svs : List Value} {chs : List Nat} {k : Nat}
  (B : Below A₀ base outer h₀) (F : Fr h₀ L s.heap m) (X : (Mine.hdm.heap_1 w.params).In h₀) (N : News h₀ L s.heap ((x, instObj 76 d) :: (d, lexDict w.params ws ln st pb t1 t2 t3 t4 t5 t6) :: (st, fnObj (some sd) fd sl) :: (sd, oS) :: (sg, W.listOf svs.toArray k) :: own)) (T : Top p loose mean mg mb h₀) (hk : cs.kind = .function) (hd : dp + 8 < recursionLimit)
  (hR : ReadsOk PySem.Challenge.pw_pg0318_02 w (Mine.hdm.heap_1 w.params) p loose mean mg mb rf sg own) (hrf : (rf, fnObj none fdR slR) ∈ own) (hS : IsReadDict oS rf) (ho : OwnOff own [d, sg]) (hlt : @LT.lt Nat _ sg st ∧ @LT.lt Nat _ st sd ∧ @LT.lt Nat _ sd d ∧ @LT.lt Nat _ d x) (hsv : SgAre svs chs) (hlen : chs.length ≤ 1000)
  (ret : ∀ tk h' tk' svs' k' ln' t5', Fr h₀ L h' m → News h₀ L h' ((x, instObj 76 d) :: (d, lexDict w.params ws ln' st pb t1 t2 t3 t4 t5' t6) :: (st, fnObj (some sd) fd sl) :: (sd, oS) :: (sg, W.listOf svs'.toArray k') :: own) → SgAre svs' chs.tail → R (.ok (.ret (.str (headStr chs) tk))) {s with heap := h', toks := tk'}) :
  codeAny (model PySem.Challenge.pw_pg0318_02 w) (ktrTop dp un gd cn cs L a ccd cl outer) (.call (.ref 59) ⟨[.ref x], []⟩) R s := by
  ktr_enter
  intro g L' h₂ hgs hgk hgn F₂ N₂ B₂ X₂ T₂
  clear hgs hgn B
  change Fr g L' h₂ (mput "self" (some (.ref x)) mnil) at F₂
  try dsimp only
  k_fold
  try (refine Mine.set_walk ?_; intro A₉ e₉)
  k_steps
  all_goals
    try dsimp only
    rename Fr _ _ _ _ => Fz
    rename News _ _ _ _ => Nz
    obtain ⟨F', N', _⟩ := leave F N hgk Fz Nz
    exact ret _ _ _ _ _ _ _ F' N' (by assumption)
end
end Mine

theorem Mine.tt_p_tok : True := by w_top off; exact trivial
namespace Mine
structure LexG where
  (x d st sd sg pb rf : Addr)
  (fd fdR : FuncData)
  (sl slR : Array (Option Value))
  (oS : Obj)
  (t1 t2 t3 t4 t6 : Tok)
  (ws : Str)
abbrev lexLed (P : Params) (G : LexG) (ln : Int) (t5 : Tok) (svs : List Value) (k : Nat) (own : List (Addr × Obj)) : List (Addr × Obj) :=
  (G.x, instObj 76 G.d) :: (G.d, lexDict P G.ws ln G.st G.pb G.t1 G.t2 G.t3 G.t4 t5 G.t6) :: (G.st, fnObj (some G.sd) G.fd G.sl) :: (G.sd, G.oS) :: (G.sg, W.listOf svs.toArray k) :: own
abbrev LexLt (G : LexG) : Prop := @LT.lt Nat _ G.sg G.st ∧ @LT.lt Nat _ G.st G.sd ∧ @LT.lt Nat _ G.sd G.d ∧ @LT.lt Nat _ G.d G.x
abbrev itObj (ended : Bool) (b : Addr) (t0 : Tok) : Obj := if ended then ciEnd else ciObj b t0
inductive AtIt (P : Params) (G : LexG) (I b : Addr) (t0 : Tok) (own : List (Addr × Obj)) (ended : Bool) (chs : List Nat) (news : List (Addr × Obj)) : Prop where
  | mk ln t5 svs k (h0 : news = lexLed P G ln t5 svs k ((I, itObj ended b t0) :: (b, methObj 59 G.x) :: own)) (h1 : SgAre svs chs) (h2 : (ended = true → chs = [])) (h3 : chs.length ≤ 1000) : AtIt P G I b t0 own ended chs news
section
variable {w : World} {dp un : Nat} {gd : Option (List Code)} {cn : Str} {cs : Scope} {a : Addr} {ccd : Value} {cl : List (Str × Addr)} {outer : List Env} {A₀ : Around} {base h₀ : Heap} {L : Addr} {m mg mb : Str → Option Value} {p : Program} {loose : List Str} {mean : ExcName → Option Value} {s : Shared} {E : Value → Shared → Prop}
structure LexOk (PR : Program) (w : World) (K : Frag) (p : Program) (loose : List Str) (mean : ExcName → Option Value) (mg mb : Str → Option Value) (G : LexG) (own : List (Addr × Obj)) : Prop where
  reads : ReadsOk PR w K p loose mean mg mb G.rf G.sg own
  rf : (G.rf, fnObj none G.fdR G.slR) ∈ own
  dict : IsReadDict G.oS G.rf
  off : OwnOff own [G.d, G.sg]
  lt : LexLt G
theorem lex_next {Q : Option Value → Shared → Prop} {G : LexG} {I b : Addr} {t0 : Tok} {own news : List (Addr × Obj)} {ended : Bool} {chs : List Nat}
  (B : Below A₀ base outer h₀) (F : Fr h₀ L s.heap m) (X : (Mine.hdm.heap_1 w.params).In h₀) (N : News h₀ L s.heap news) (T : Top p loose mean mg mb h₀) (hk : cs.kind = .function) (hd : dp + 8 < recursionLimit)
  (O : LexOk PySem.Challenge.pw_pg0318_02 w (Mine.hdm.heap_1 w.params) p loose mean mg mb G own) (hI : @LT.lt Nat _ G.x I) (hb : @LT.lt Nat _ G.x b) (hIb : I ≠ b) (hIo : ∀ q ∈ own, q.1 ≠ I) (A : AtIt w.params G I b t0 own ended chs news)
  (hit : ∀ c r tk h' tk' news', ended = false → chs = c :: r → Fr h₀ L h' m → News h₀ L h' news' → AtIt w.params G I b t0 own false r news' → Q (some (.str ⟨#[c]⟩ tk)) {s with heap := h', toks := tk'})
  (miss : ∀ h' tk' news', chs = [] → Fr h₀ L h' m → News h₀ L h' news' → AtIt w.params G I b t0 own true [] news' → Q none {s with heap := h', toks := tk'}) :
  wpAny (model PySem.Challenge.pw_pg0318_02 w) (ktrTop dp un gd cn cs L a ccd cl outer) (pyNext (.ref I)) Q E s := by
  obtain ⟨ln, t5, svs, k, rfl, hsv, hend, hlen⟩ := A
  have mI : (I, itObj ended b t0) ∈ lexLed w.params G ln t5 svs k ((I, itObj ended b t0) :: (b, methObj 59 G.x) :: own) := .tail _ (.tail _ (.tail _ (.tail _ (.tail _ (.head _)))))
  cases ended with
  | true =>
    obtain rfl := hend rfl
    refine ci_next_end rfl (N _ mI).1 fun h' hk' => ?_
    exact miss h' s.toks _ rfl ⟨F.ns.keeps hk', fun b o e => hk' b o (F.keep b o e), F.above⟩ (fun q hq => ⟨hk' _ _ (N q hq).1, (N q hq).2⟩) ⟨ln, t5, svs, k, rfl, hsv, hend, hlen⟩
  | false =>
    obtain ⟨fc, fo, fd, sl, eK⟩ : ∃ fc fo fd sl, (Mine.hdm.heap_1 w.params).lookup 59 = some ⟨fc, fo, .func fd, sl⟩ := ⟨_, _, _, _, rfl⟩
    have h125 : ∀ {h : Heap} {m' : Str → Option Value}, Fr h₀ L h m' → h.get? 59 = some ⟨fc, fo, .func fd, sl⟩ := fun F' => F'.keep _ _ (X _ _ eK)
    refine ci_next rfl (N _ mI).1 (N (b, methObj 59 G.x) (.tail _ (.tail _ (.tail _ (.tail _ (.tail _ (.tail _ (.head _)))))))).1 (h125 F) ?_
    have hO := O.lt
    refine read_char_code (own := (I, ciObj b t0) :: (b, methObj 59 G.x) :: own) B F X N T hk hd (O.reads.mono fun q hq => .tail _ (.tail _ hq)) (.tail _ (.tail _ O.rf)) O.dict ?_ ⟨hO.1, hO.2.1, hO.2.2.1, hO.2.2.2⟩ hsv hlen ?_
    · intro q hq r hr
      simp only [List.mem_cons] at hq
      simp only [List.mem_cons, List.not_mem_nil, or_false] at hr
      obtain ⟨o1, o2, o3, o4⟩ := hO
      rcases hq with rfl | rfl | hq
      · rcases hr with rfl | rfl <;> (refine neN ?_; dsimp only; omega)
      · rcases hr with rfl | rfl <;> (refine neN ?_; dsimp only; omega)
      · exact O.off q hq r (by simp only [List.mem_cons, List.not_mem_nil, or_false]; exact hr)
    · intro tk h' tk' svs' k' ln' t5' F' N' S'
      have mI' := (N' (I, ciObj b t0) (.tail _ (.tail _ (.tail _ (.tail _ (.tail _ (.head _))))))).1
      have mb' := (N' (b, methObj 59 G.x) (.tail _ (.tail _ (.tail _ (.tail _ (.tail _ (.tail _ (.head _)))))))).1
      refine ⟨_, tk, h', tk', rfl, rfl, mI', mb', h125 F', fun hne => ?_, fun he h'' hk'' hI'' => ?_⟩
      · cases chs with
        | nil => exact absurd rfl hne
        | cons c r => exact hit c r tk h' tk' _ rfl rfl F' N' ⟨ln', t5', svs', k', rfl, S', (fun e => nomatch e), by simp only [List.length_cons] at hlen; omega⟩
      · cases chs with
        | cons c r => exact absurd (show (1 : Nat) = 0 from congrArg (fun x : Str => x.cps.size) he) (by decide)
        | nil =>
          obtain ⟨oL, e1, e2, hL, e3⟩ := F'.ns
          have hLI : L ≠ I := fun e => (N' (I, ciObj b t0) (.tail _ (.tail _ (.tail _ (.tail _ (.tail _ (.head _))))))).2.1 e.symm
          have hnI : h₀.get? I = none := (N' (I, ciObj b t0) (.tail _ (.tail _ (.tail _ (.tail _ (.tail _ (.head _))))))).2.2
          have F'' : Fr h₀ L h'' m := ⟨⟨oL, e1, e2, hk'' _ _ hLI hL, e3⟩, fun b' o e => hk'' b' o (fun q => by rw [q, hnI] at e; cases e) (F'.keep b' o e), F'.above⟩
          refine miss h'' tk' (lexLed w.params G ln' t5' svs' k' ((I, ciEnd) :: (b, methObj 59 G.x) :: own)) rfl F'' ?_ ⟨ln', t5', svs', k', rfl, S', fun _ => rfl, hlen⟩
          have old : ∀ q ∈ lexLed w.params G ln' t5' svs' k' ((I, ciObj b t0) :: (b, methObj 59 G.x) :: own), q.1 ≠ I → h''.get? q.1 = some q.2 ∧ q.1 ≠ L ∧ h₀.get? q.1 = none := fun q hq n => ⟨hk'' _ _ n (N' q hq).1, (N' q hq).2⟩
          obtain ⟨o1, o2, o3, o4⟩ := hO
          refine List.forall_mem_cons.mpr ⟨old _ (.head _) (neN (by dsimp only; omega)), List.forall_mem_cons.mpr ⟨old _ (.tail _ (.head _)) (neN (by dsimp only; omega)), List.forall_mem_cons.mpr ⟨old _ (.tail _ (.tail _ (.head _))) (neN (by dsimp only; omega)), List.forall_mem_cons.mpr ⟨old _ (.tail _ (.tail _ (.tail _ (.head _)))) (neN (by dsimp only; omega)), List.forall_mem_cons.mpr ⟨old _ (.tail _ (.tail _ (.tail _ (.tail _ (.head _))))) (neN (by dsimp only; omega)), List.forall_mem_cons.mpr ⟨⟨hI'', hLI.symm, hnI⟩, List.forall_mem_cons.mpr ⟨old _ (.tail _ (.tail _ (.tail _ (.tail _ (.tail _ (.tail _ (.head _))))))) hIb.symm, fun q hq => old q (.tail _ (.tail _ (.tail _ (.tail _ (.tail _ (.tail _ (.tail _ hq))))))) (hIo q hq)⟩⟩⟩⟩⟩⟩⟩
inductive CEnd (P : Params) (h₀ : Heap) (L : Addr) (G : LexG) (I b : Addr) (t0 : Tok) (own : List (Addr × Obj)) (J : List Nat → (Str → Option Value) → Prop) (n : Nat) (s s₂ : Shared) : Prop where
  | mk h' tk' m' news' chs' ended' (h0 : s₂ = { s with heap := h', toks := tk' }) (h1 : Fr h₀ L h' m') (h2 : News h₀ L h' news') (h3 : AtIt P G I b t0 own ended' chs' news') (h4 : chs'.length ≤ n) (h5 : J chs' m') : CEnd P h₀ L G I b t0 own J n s s₂
theorem CEnd.intro {P : Params} {h₀ : Heap} {L : Addr} {G : LexG} {I b : Addr} {t0 t5 : Tok} {own : List (Addr × Obj)} {J : List Nat → (Str → Option Value) → Prop} {n : Nat} {s : Shared} {h' : Heap} {tk' : Nat} {m' : Str → Option Value} {ln : Int} {svs : List Value} {k : Nat} {chs' : List Nat} (e : Bool)
  (F : Fr h₀ L h' m') (N : News h₀ L h' (lexLed P G ln t5 svs k ((I, itObj e b t0) :: (b, methObj 59 G.x) :: own))) (S : SgAre svs chs') (he : e = true → chs' = []) (hl : chs'.length ≤ n) (hn : n ≤ 1000) (hj : J chs' m') : CEnd P h₀ L G I b t0 own J n s { s with heap := h', toks := tk' } :=
  ⟨h', tk', m', _, chs', e, rfl, F, N, ⟨ln, t5, svs, k, rfl, S, he, Nat.le_trans hl hn⟩, hl, hj⟩
def CPost (P : Params) (h₀ : Heap) (L : Addr) (G : LexG) (I b : Addr) (t0 : Tok) (own : List (Addr × Obj)) (J : List Nat → (Str → Option Value) → Prop) (n : Nat) (s : Shared) (Q : Flow → Shared → Prop) (f : Flow) (s₂ : Shared) : Prop :=
  match f with
  | .ret v => Q (.ret v) s₂
  | .brk => Q .next s₂
  | _ => CEnd P h₀ L G I b t0 own J n s s₂
theorem ci_J {Q : Flow → Shared → Prop} {env : Env} {target : PySem.Expr} {body : List Stmt} {G : LexG} {I b : Addr} {t0 : Tok} {own news : List (Addr × Obj)} {ended : Bool} {chs : List Nat} (J : List Nat → (Str → Option Value) → Prop)
  (B : Below A₀ base outer h₀) (F : Fr h₀ L s.heap m) (X : (Mine.hdm.heap_1 w.params).In h₀) (N : News h₀ L s.heap news) (T : Top p loose mean mg mb h₀) (hk : cs.kind = .function) (hd : dp + 8 < recursionLimit)
  (O : LexOk PySem.Challenge.pw_pg0318_02 w (Mine.hdm.heap_1 w.params) p loose mean mg mb G own) (hI : @LT.lt Nat _ G.x I) (hb : @LT.lt Nat _ G.x b) (hIb : I ≠ b) (hIo : ∀ q ∈ own, q.1 ≠ I) (A : AtIt w.params G I b t0 own ended chs news) (hj : J chs m)
  (turn : ∀ c r u m₁ news₁ h tk, J (c :: r) m₁ → Fr h₀ L h m₁ → News h₀ L h news₁ → AtIt w.params G I b t0 own false r news₁ →
    wpAny (model PySem.Challenge.pw_pg0318_02 w) (ktrTop dp un gd cn cs L a ccd cl outer) (assign target env (.str ⟨#[c]⟩ u)) (fun _ s₃ => wpAny (model PySem.Challenge.pw_pg0318_02 w) (ktrTop dp un gd cn cs L a ccd cl outer) (execs body env) (CPost w.params h₀ L G I b t0 own J r.length { s with heap := h, toks := tk } Q) (fun _ _ => False) s₃) (fun _ _ => False) { s with heap := h, toks := tk })
  (done : ∀ m₁ news₁ h tk, J [] m₁ → Fr h₀ L h m₁ → News h₀ L h news₁ → AtIt w.params G I b t0 own true [] news₁ → Q .next { s with heap := h, toks := tk })
  (ht : ∀ v I, letOwnedTupleGo target (.ref I) v = pure () := by intro _ _; rfl) :
  wpAny (model PySem.Challenge.pw_pg0318_02 w) (ktrTop dp un gd cn cs L a ccd cl outer) (pyIter (.ref I)) (fun it s₂ => JAt PySem.Challenge.pw_pg0318_02 w (ktrTop dp un gd cn cs L a ccd cl outer) env target body Q E it s₂) E s := by
  have hI0 : ∃ o, s.heap.get? I = some o ∧ o.cls = .type "callable_iterator" := by
    obtain ⟨ln, t5, svs, k, rfl, _⟩ := A
    refine ⟨_, (N (I, itObj ended b t0) (.tail _ (.tail _ (.tail _ (.tail _ (.tail _ (.head _))))))).1, ?_⟩
    cases ended <;> rfl
  obtain ⟨oI, gI, cI⟩ := hI0
  refine ci_pyIter gI cI ?_
  unfold JAt
  refine codeAny_forLoop_any (fun k s' => ∃ h' tk m' news' chs' ended', s' = { s with heap := h', toks := tk } ∧ Fr h₀ L h' m' ∧ News h₀ L h' news' ∧ AtIt w.params G I b t0 own ended' chs' news' ∧ J chs' m' ∧ k = chs'.length) ?_ chs.length ⟨s.heap, s.toks, m, news, chs, ended, rfl, F, N, A, hj, rfl⟩
  rintro k s' ⟨h', tk, m', news', chs', ended', rfl, F', N', A', hJ, rfl⟩
  refine lex_next B F' X N' T hk hd O hI hb hIb hIo A' ?_ ?_
  · rintro c r u h₁ tk₁ news₁ rfl rfl F₁ N₁ A₁
    dsimp only
    rw [ht]
    refine wpAny_pure (wpAny_noRaise (wpAny_mono (turn c r u m' news₁ h₁ tk₁ hJ F₁ N₁ A₁) (fun _ s₂ h₂ => ?_) fun _ _ e => e))
    refine wpAny_noRaise (wpAny_mono h₂ (fun f s₃ h₃ => ?_) fun _ _ e => e)
    cases f with
    | ret v => exact h₃
    | brk => exact h₃
    | next =>
      obtain ⟨h₄, tk₄, m₄, news₄, chs₄, e₄, rfl, F₄, N₄, A₄, hl, hJ₄⟩ := h₃
      exact ⟨chs₄.length, by rw [List.length_cons]; omega, h₄, tk₄, m₄, news₄, chs₄, e₄, rfl, F₄, N₄, A₄, hJ₄, rfl⟩
    | cont =>
      obtain ⟨h₄, tk₄, m₄, news₄, chs₄, e₄, rfl, F₄, N₄, A₄, hl, hJ₄⟩ := h₃
      exact ⟨chs₄.length, by rw [List.length_cons]; omega, h₄, tk₄, m₄, news₄, chs₄, e₄, rfl, F₄, N₄, A₄, hJ₄, rfl⟩
  · rintro h₁ tk₁ news₁ rfl F₁ N₁ A₁
    dsimp only
    exact wpAny_execs_nil (done m' news₁ h₁ tk₁ hJ F₁ N₁ A₁)
theorem ci_J2 {Q : Flow → Shared → Prop} {env : Env} {target : PySem.Expr} {body : List Stmt} {G : LexG} {I b : Addr} {t0 t5 : Tok} {ln : Int} {k : Nat} {own : List (Addr × Obj)} {svs : List Value} {chs : List Nat} (Jf : Addr → List Nat → (Str → Option Value) → Prop)
  (B : Below A₀ base outer h₀) (F : Fr h₀ L s.heap m) (X : (Mine.hdm.heap_1 w.params).In h₀) (N : News h₀ L s.heap ((I, ciObj b t0) :: (b, methObj 59 G.x) :: lexLed w.params G ln t5 svs k own)) (T : Top p loose mean mg mb h₀) (hk : cs.kind = .function) (hd : dp + 8 < recursionLimit)
  (O : LexOk PySem.Challenge.pw_pg0318_02 w (Mine.hdm.heap_1 w.params) p loose mean mg mb G own) (hI : @LT.lt Nat _ G.x I) (hb : @LT.lt Nat _ G.x b) (hIb : @LT.lt Nat _ b I) (hIo : AllLt I own) (hsv : SgAre svs chs) (hlen : chs.length ≤ 1000) (hj : Jf I chs m)
  (turn : ∀ c r u m₁ news₁ h tk, Jf I (c :: r) m₁ → Fr h₀ L h m₁ → News h₀ L h news₁ → AtIt w.params G I b t0 own false r news₁ →
    wpAny (model PySem.Challenge.pw_pg0318_02 w) (ktrTop dp un gd cn cs L a ccd cl outer) (assign target env (.str ⟨#[c]⟩ u)) (fun _ s₃ => wpAny (model PySem.Challenge.pw_pg0318_02 w) (ktrTop dp un gd cn cs L a ccd cl outer) (execs body env) (CPost w.params h₀ L G I b t0 own (Jf I) r.length { s with heap := h, toks := tk } Q) (fun _ _ => False) s₃) (fun _ _ => False) { s with heap := h, toks := tk })
  (done : ∀ m₁ news₁ h tk, Jf I [] m₁ → Fr h₀ L h m₁ → News h₀ L h news₁ → AtIt w.params G I b t0 own true [] news₁ → Q .next { s with heap := h, toks := tk })
  (ht : ∀ v I, letOwnedTupleGo target (.ref I) v = pure () := by intro _ _; rfl) :
  wpAny (model PySem.Challenge.pw_pg0318_02 w) (ktrTop dp un gd cn cs L a ccd cl outer) (pyIter (.ref I)) (fun it s₂ => JAt PySem.Challenge.pw_pg0318_02 w (ktrTop dp un gd cn cs L a ccd cl outer) env target body Q E it s₂) E s := by
  refine ci_J (news := lexLed w.params G ln t5 svs k ((I, itObj false b t0) :: (b, methObj 59 G.x) :: own)) (Jf I) B F X (News.sub N fun q hq => ?_) T hk hd O hI hb (Nat.ne_of_gt hIb) (ne_of_allLt hIo) ⟨ln, t5, svs, k, rfl, hsv, (fun e => nomatch e), hlen⟩ hj turn done ht
  simp only [List.mem_cons] at hq ⊢
  rcases hq with h | h | h | h | h | h | h | h
  · exact .inr (.inr (.inl h))
  · exact .inr (.inr (.inr (.inl h)))
  · exact .inr (.inr (.inr (.inr (.inl h))))
  · exact .inr (.inr (.inr (.inr (.inr (.inl h)))))
  · exact .inr (.inr (.inr (.inr (.inr (.inr (.inl h))))))
  · exact .inl h
  · exact .inr (.inl h)
  · exact .inr (.inr (.inr (.inr (.inr (.inr (.inr h))))))
theorem ci_J3 {Q : Flow → Shared → Prop} {env : Env} {target : PySem.Expr} {body : List Stmt} {G : LexG} {I b : Addr} {t0 t5 : Tok} {ln : Int} {k : Nat} {own : List (Addr × Obj)} {svs : List Value} {chs : List Nat} (Jf : Addr → List Nat → (Str → Option Value) → Prop)
  (B : Below A₀ base outer h₀) (F : Fr h₀ L s.heap m) (X : (Mine.hdm.heap_1 w.params).In h₀) (N : News h₀ L s.heap (lexLed w.params G ln t5 svs k ((I, itObj false b t0) :: (b, methObj 59 G.x) :: own))) (T : Top p loose mean mg mb h₀) (hk : cs.kind = .function) (hd : dp + 8 < recursionLimit)
  (O : LexOk PySem.Challenge.pw_pg0318_02 w (Mine.hdm.heap_1 w.params) p loose mean mg mb G own) (hI : @LT.lt Nat _ G.x I) (hb : @LT.lt Nat _ G.x b) (hIb : @LT.lt Nat _ b I) (hIo : AllLt I own) (hsv : SgAre svs chs) (hlen : chs.length ≤ 1000) (hj : Jf I chs m)
  (turn : ∀ c r u m₁ news₁ h tk, Jf I (c :: r) m₁ → Fr h₀ L h m₁ → News h₀ L h news₁ → AtIt w.params G I b t0 own false r news₁ →
    wpAny (model PySem.Challenge.pw_pg0318_02 w) (ktrTop dp un gd cn cs L a ccd cl outer) (assign target env (.str ⟨#[c]⟩ u)) (fun _ s₃ => wpAny (model PySem.Challenge.pw_pg0318_02 w) (ktrTop dp un gd cn cs L a ccd cl outer) (execs body env) (CPost w.params h₀ L G I b t0 own (Jf I) r.length { s with heap := h, toks := tk } Q) (fun _ _ => False) s₃) (fun _ _ => False) { s with heap := h, toks := tk })
  (done : ∀ m₁ news₁ h tk, Jf I [] m₁ → Fr h₀ L h m₁ → News h₀ L h news₁ → AtIt w.params G I b t0 own true [] news₁ → Q .next { s with heap := h, toks := tk })
  (ht : ∀ v I, letOwnedTupleGo target (.ref I) v = pure () := by intro _ _; rfl) :
  wpAny (model PySem.Challenge.pw_pg0318_02 w) (ktrTop dp un gd cn cs L a ccd cl outer) (pyIter (.ref I)) (fun it s₂ => JAt PySem.Challenge.pw_pg0318_02 w (ktrTop dp un gd cn cs L a ccd cl outer) env target body Q E it s₂) E s :=
  ci_J (Jf I) B F X N T hk hd O hI hb (Nat.ne_of_gt hIb) (ne_of_allLt hIo) ⟨ln, t5, svs, k, rfl, hsv, (fun e => nomatch e), hlen⟩ hj turn done ht
theorem read_char_at {Q : Value → Shared → Prop} {G : LexG} {I b : Addr} {e : Bool} {t0 t5 : Tok} {ln : Int} {k : Nat} {own : List (Addr × Obj)} {svs : List Value} {chs : List Nat}
  (B : Below A₀ base outer h₀) (F : Fr h₀ L s.heap m) (X : (Mine.hdm.heap_1 w.params).In h₀) (N : News h₀ L s.heap (lexLed w.params G ln t5 svs k ((I, itObj e b t0) :: (b, methObj 59 G.x) :: own))) (T : Top p loose mean mg mb h₀) (hk : cs.kind = .function) (hd : dp + 8 < recursionLimit)
  (O : LexOk PySem.Challenge.pw_pg0318_02 w (Mine.hdm.heap_1 w.params) p loose mean mg mb G own) (hI : @LT.lt Nat _ G.x I) (hb : @LT.lt Nat _ G.x b) (hsv : SgAre svs chs) (hlen : chs.length ≤ 1000)
  (ret : ∀ tk h' tk' svs' k' ln' t5', Fr h₀ L h' m → News h₀ L h' (lexLed w.params G ln' t5' svs' k' ((I, itObj e b t0) :: (b, methObj 59 G.x) :: own)) → SgAre svs' chs.tail → Q (.str (headStr chs) tk) {s with heap := h', toks := tk'}) :
  wpAny (model PySem.Challenge.pw_pg0318_02 w) (ktrTop dp un gd cn cs L a ccd cl outer) (call (.ref 59) [.ref G.x]) Q E s := by
  have hO := O.lt
  refine wpAny_call (read_char_code (own := (I, itObj e b t0) :: (b, methObj 59 G.x) :: own) B F X N T hk hd (O.reads.mono fun q hq => .tail _ (.tail _ hq)) (.tail _ (.tail _ O.rf)) O.dict ?_ ⟨hO.1, hO.2.1, hO.2.2.1, hO.2.2.2⟩ hsv hlen ret)
  intro q hq r hr
  simp only [List.mem_cons] at hq
  simp only [List.mem_cons, List.not_mem_nil, or_false] at hr
  obtain ⟨o1, o2, o3, o4⟩ := hO
  rcases hq with rfl | rfl | hq
  · rcases hr with rfl | rfl <;> (refine neN ?_; dsimp only; omega)
  · rcases hr with rfl | rfl <;> (refine neN ?_; dsimp only; omega)
  · exact O.off q hq r (by simp only [List.mem_cons, List.not_mem_nil, or_false]; exact hr)
end
end Mine

theorem Mine.tt_p_get : True := by w_top off; exact trivial
namespace Mine
-- GET_TOKEN
def lexQ : List Nat → List Nat → List Nat × List Nat
  | [], acc => (acc, [])
  | c :: r, acc => if c = 34 then (acc, r) else if c = 92 then (match r with | [] => (acc, []) | c' :: r' => lexQ r' (acc ++ [c'])) else lexQ r (acc ++ [c])
def lexB (ws : List Nat) : List Nat → List Nat → List Nat × List Nat
  | [], acc => (acc, [])
  | c :: r, acc => if c ∈ ws then (acc, r) else if c = 92 then (match r with | [] => (acc, []) | c' :: r' => lexB ws r' (acc ++ [c'])) else lexB ws r (acc ++ [c])
def lexO (ws : List Nat) : List Nat → List Nat × List Nat
  | [] => ([], [])
  | c :: r => if c ∈ ws then lexO ws r else if c = 34 then lexQ r [] else if c = 92 then lexB ws r.tail (r.take 1) else lexB ws r [c]
theorem lexQ_n {acc : List Nat} : lexQ [] acc = (acc, []) := rfl
theorem lexB_n {ws acc : List Nat} : lexB ws [] acc = (acc, []) := rfl
theorem lexQ_q {r acc : List Nat} : lexQ (34 :: r) acc = (acc, r) := by rw [lexQ.eq_def]; dsimp only; rw [if_pos rfl]
theorem lexQ_e {r acc : List Nat} : lexQ (92 :: r) acc = lexQ r.tail (acc ++ r.take 1) := by
  rw [lexQ.eq_def]; dsimp only; rw [if_neg (by decide), if_pos rfl]
  cases r with
  | nil => rw [List.tail_nil, List.take_nil, List.append_nil, lexQ_n]
  | cons c r => rfl
theorem lexQ_o {c : Nat} {r acc : List Nat} (h : c ≠ 34) (h2 : c ≠ 92) : lexQ (c :: r) acc = lexQ r (acc ++ [c]) := by rw [lexQ.eq_def]; dsimp only; rw [if_neg h, if_neg h2]
theorem lexB_w {ws : List Nat} {c : Nat} {r acc : List Nat} (h : c ∈ ws) : lexB ws (c :: r) acc = (acc, r) := by rw [lexB.eq_def]; dsimp only; rw [if_pos h]
theorem lexB_e {ws r acc : List Nat} (h : 92 ∉ ws) : lexB ws (92 :: r) acc = lexB ws r.tail (acc ++ r.take 1) := by
  rw [lexB.eq_def]; dsimp only; rw [if_neg h, if_pos rfl]
  cases r with
  | nil => rw [List.tail_nil, List.take_nil, List.append_nil, lexB_n]
  | cons c r => rfl
theorem lexB_o {ws : List Nat} {c : Nat} {r acc : List Nat} (h : c ∉ ws) (h2 : c ≠ 92) : lexB ws (c :: r) acc = lexB ws r (acc ++ [c]) := by rw [lexB.eq_def]; dsimp only; rw [if_neg h, if_neg h2]
theorem lexO_w {ws : List Nat} {c : Nat} {r : List Nat} (h : c ∈ ws) : lexO ws (c :: r) = lexO ws r := by rw [lexO, if_pos h]
theorem lexO_q {ws r : List Nat} (h : 34 ∉ ws) : lexO ws (34 :: r) = lexQ r [] := by rw [lexO, if_neg h, if_pos rfl]
theorem lexO_e {ws r : List Nat} (h : 92 ∉ ws) : lexO ws (92 :: r) = lexB ws r.tail (r.take 1) := by rw [lexO, if_neg h, if_neg (by decide), if_pos rfl]
theorem lexO_o {ws : List Nat} {c : Nat} {r : List Nat} (h : c ∉ ws) (h1 : c ≠ 34) (h2 : c ≠ 92) : lexO ws (c :: r) = lexB ws r [c] := by rw [lexO, if_neg h, if_neg h1, if_neg h2]
theorem occ_no {ws : Str} {c : Nat} (h : (Builtin.Str.occurrences ws ⟨#[c]⟩ 0 ws.length 1).isEmpty = true) : c ∉ ws.cps.toList := by
  have := StrLaws.found_one ws c
  rw [h] at this
  exact of_decide_eq_false this.symm
theorem occ_yes {ws : Str} {c : Nat} (h : (Builtin.Str.occurrences ws ⟨#[c]⟩ 0 ws.length 1).isEmpty = false) : c ∈ ws.cps.toList := by
  have := StrLaws.found_one ws c
  rw [h] at this
  exact of_decide_eq_true this.symm
abbrev stOf (l : List Nat) : Str := ⟨l.toArray⟩
theorem st_len (l : List Nat) : (stOf l).length = l.length := List.size_toArray ..
theorem one_len (c : Nat) : (⟨#[c]⟩ : Str).length = 1 := rfl
theorem st_one (l : List Nat) (c : Nat) : stOf l ++ ⟨#[c]⟩ = stOf (l ++ [c]) := by
  apply Str.ext'; rw [Str.cps_append]; simp
theorem st_head (l r : List Nat) : stOf l ++ headStr r = stOf (l ++ r.take 1) := by
  apply Str.ext'; rw [Str.cps_append]
  cases r with
  | nil => show l.toArray ++ #[] = _; simp
  | cons c r => show l.toArray ++ #[c] = _; simp
theorem st_app (a b : List Nat) : stOf a ++ stOf b = stOf (a ++ b) := by
  show (⟨a.toArray ++ b.toArray⟩ : Str) = _
  rw [List.append_toArray]
theorem st_hd (r : List Nat) : headStr r = stOf (r.take 1) := by cases r <;> rfl
theorem head_len (r : List Nat) : (headStr r).length ≤ 1 := by
  cases r with
  | nil => exact Nat.zero_le _
  | cons c r => exact Nat.le_refl _
theorem tail_take (r : List Nat) : r.tail.length + (r.take 1).length = r.length := by
  cases r with
  | nil => rfl
  | cons c r => simp
theorem ch_is {c k : Nat} {x : Str} (hx : x = ⟨#[k]⟩) (h : ((⟨#[c]⟩ : Str) == x) = true) : c = k := by
  rw [sgn hx] at h; exact of_decide_eq_true h
theorem ch_not {c k : Nat} {x : Str} (hx : x = ⟨#[k]⟩) (h : ((⟨#[c]⟩ : Str) == x) = false) : c ≠ k := by
  rw [sgn hx] at h; exact of_decide_eq_false h
abbrev getMap (vch : Option Value) (acc : List Nat) (tt : Tok) (I x : Addr) : Str → Option Value :=
  mput "ch" vch (mput "fiter" (some (.ref I)) (mput "token" (some (.str (stOf acc) tt)) (mput "self" (some (.ref x)) mnil)))
inductive OJ (ws : List Nat) (T : List Nat × List Nat) (x I : Addr) (chs : List Nat) (m₁ : Str → Option Value) : Prop where
  | mk vch acc tt (h0 : m₁ = getMap vch acc tt I x) (h1 : acc.length + chs.length ≤ 1000) (h2 : ((acc = [] ∧ T = lexO ws chs) ∨ (chs = [] ∧ T = (acc, [])))) : OJ ws T x I chs m₁
inductive QJ (T : List Nat × List Nat) (x I : Addr) (chs : List Nat) (m₁ : Str → Option Value) : Prop where
  | mk vch acc tt (h0 : m₁ = getMap vch acc tt I x) (h1 : acc.length + chs.length ≤ 1000) (h2 : T = lexQ chs acc) : QJ T x I chs m₁
inductive BJ (ws : List Nat) (T : List Nat × List Nat) (x I : Addr) (chs : List Nat) (m₁ : Str → Option Value) : Prop where
  | mk vch acc tt (h0 : m₁ = getMap vch acc tt I x) (h1 : acc.length + chs.length ≤ 1000) (h2 : T = lexB ws chs acc) : BJ ws T x I chs m₁
local macro_rules | `(tactic| walk_at "call builtin:iter") => Mine.ln `Mine.ci_iter_K 3 0 true "AaBaCm" none 0 0 "Iabcde Le W"
local macro_rules | `(tactic| walk_at "call ref") => Mine.ln `Mine.read_char_at 12 0 false "AaBaCaDaEaFkHsIoJoKsLsGr" none 0 0 "Iabcdefghij D F"
local macro_rules | `(tactic| walk_at "α") => `(tactic| (rw [sizeLine_eq]; (try simp only [Mine.st_len, Mine.one_len, List.length_nil]); omega))
local macro_rules | `(tactic| walk_at "binaryOp Add str str") => Mine.ln `PyProof.Rows.add_str 0 1 false "Aα" none 0 0 "Iab"
local macro_rules | `(tactic| walk_at "inplaceOp Add str str") => Mine.ln `PyProof.Rows.iadd_str 0 1 false "Aα" none 0 0 "Iab"
local macro_rules | `(tactic| walk_at "CPost") => `(tactic| dsimp only [Mine.CPost])
local macro_rules | `(tactic| law_fin) => `(tactic| exact mext ["ch", "fiter", "token", "self"] ⟨rfl, rfl, rfl, rfl, trivial⟩ (by intro y hy; simp only [Off] at hy; simp [getMap, mput, mnil, hy]))
inductive GetCut (P : Params) (g : Heap) (L : Addr) (G : LexG) (own : List (Addr × Obj)) (T : List Nat × List Nat) (n : Nat) (I b : Addr) (t0 tt : Tok) (s : Shared) (f : Flow) (s' : Shared) : Prop where
  | mk h' tk' a u ln' t5' svs' k' r2 (e0 : f = .next) (e1 : s' = {s with heap := h', toks := tk'}) (F : Fr g L h' (getMap (some (.str (stOf a) u)) [] tt I G.x)) (N : News g L h' (lexLed P G ln' t5' svs' k' ((I, itObj false b t0) :: (b, methObj 59 G.x) :: own))) (S : SgAre svs' r2) (hl : a.length + r2.length ≤ 1000) (hl2 : r2.length ≤ n) (hT : T = lexB G.ws.cps.toList r2 a) : GetCut P g L G own T n I b t0 tt s f s'
local macro_rules | `(tactic| walk_at "exec If Compare cons nil") => Mine.ln `Mine.if_stop 0 0 false "" none 0 0 ""
section
variable {w : World} {dp un : Nat} {gd : Option (List Code)} {cn : Str} {cs : Scope} {a : Addr} {ccd : Value} {cl : List (Str × Addr)} {outer : List Env} {A₀ : Around} {base h₀ : Heap} {L : Addr} {m mg mb : Str → Option Value} {p : Program} {loose : List Str} {mean : ExcName → Option Value} {s : Shared} {Q E : Value → Shared → Prop} {news : List (Addr × Obj)}
theorem get_token_read {G : LexG} {ln : Int} {t5 : Tok} {svs : List Value} {k pk : Nat} {own : List (Addr × Obj)} {chs : List Nat} {T : List Nat × List Nat} (hT : T = lexO G.ws.cps.toList chs)
  (B : Below A₀ base outer h₀) (F : Fr h₀ L s.heap m) (X : (Mine.hdm.heap_1 w.params).In h₀) (N : News h₀ L s.heap news) (T₀ : Top p loose mean mg mb h₀) (hk : cs.kind = .function) (hd : dp + 20 < recursionLimit)
  (O : LexOk PySem.Challenge.pw_pg0318_02 w (Mine.hdm.heap_1 w.params) p loose mean mg mb G own) (hpb : @LT.lt Nat _ G.sg G.pb ∧ @LT.lt Nat _ G.d G.pb)
  (hsub : ∀ q ∈ lexLed w.params G ln t5 svs k ((G.pb, W.listOf #[] pk) :: own), q ∈ news) (hsv : SgAre svs chs) (hlen : chs.length ≤ 1000)
  (ret : ∀ tk h' tk' svs' k' ln' t5', Fr h₀ L h' m → Keeps [G.d, G.sg] s.heap h' → News h₀ L h' [(G.d, lexDict w.params G.ws ln' G.st G.pb G.t1 G.t2 G.t3 G.t4 t5' G.t6), (G.sg, W.listOf svs'.toArray k')] → SgAre svs' T.2 → Q (.str (stOf T.1) tk) {s with heap := h', toks := tk'}) :
  wpAny (model PySem.Challenge.pw_pg0318_02 w) (ktrTop dp un gd cn cs L a ccd cl outer) (call (.ref 66) [.ref G.x]) Q E s := by
  refine wpAny_call ?_
  have hO := O.lt
  have fin : ∀ {g h' : Heap} {L' : Addr} {m' : Str → Option Value} {news' : List (Addr × Obj)} {I b : Addr} {t0 : Tok} {e : Bool} {chs' acc : List Nat} {tk tk' : Nat}, Keeps ((lexLed w.params G ln t5 svs k ((G.pb, W.listOf #[] pk) :: own)).map (·.1)) s.heap g → Fr g L' h' m' → News g L' h' news' → AtIt w.params G I b t0 ((G.pb, W.listOf #[] pk) :: own) e chs' news' → T = (acc, chs') → Q (.str (stOf acc) tk) {s with heap := h', toks := tk'} := by
    rintro g h' L' m' _ I b t0 e chs' acc tk tk' hgk F' N' ⟨ln', t5', svs', k', rfl, S', _, _⟩ rfl
    obtain ⟨F'', K'', N''⟩ := leave_S [G.d, G.sg] F N hsub hgk F' N' fun q hq => by
      simp only [List.mem_cons, List.not_mem_nil, or_false] at hq ⊢
      rcases hq with h | h | h | h | h | h | h
      · exact .inl (.inl h)
      · exact .inr (.inl (congrArg (·.1) h))
      · exact .inl (.inr (.inr (.inl h)))
      · exact .inl (.inr (.inr (.inr (.inl h))))
      · exact .inr (.inr (congrArg (·.1) h))
      · exact .inl (.inr (.inr (.inr (.inr (.inr (.inr (.inr (.inl h))))))))
      · exact .inl (.inr (.inr (.inr (.inr (.inr (.inr (.inr (.inr h))))))))
    exact ret tk h' tk' svs' k' ln' t5' F'' K'' (News.sub N'' (sub_cons (.tail _ (.head _)) (sub_cons (.tail _ (.tail _ (.tail _ (.tail _ (.head _))))) sub_nil))) S'
  have N₁ := News.sub N hsub
  ktr_enter
  intro g L' h₂ hgs hgk hgn F₂ N₂ B₂ X₂ T₂
  clear hgs hgn B N₁
  change Fr g L' h₂ (mput "self" (some (.ref G.x)) mnil) at F₂
  try dsimp only
  k_fold
  try (refine Mine.set_walk ?_; intro A₉ e₉)
  k_steps
  rename News _ _ _ _ => Nn
  rename Fr _ _ _ _ => Fn
  have O2 : LexOk PySem.Challenge.pw_pg0318_02 w (Mine.hdm.heap_1 w.params) p loose mean mg mb G ((G.pb, W.listOf #[] pk) :: own) := ⟨O.reads.mono fun q hq => .tail _ hq, .tail _ O.rf, O.dict, List.forall_mem_cons.mpr ⟨fun r hr => by
    simp only [List.mem_cons, List.not_mem_nil, or_false] at hr
    rcases hr with rfl | rfl <;> (refine neN ?_; dsimp only; omega), O.off⟩, O.lt⟩
  rename_i tkb0 hX0 q0 hY0 l10 I0 hZ0 l20 hW0
  refine' Mine.ci_J2 (fun I => OJ G.ws.cps.toList T G.x I) B₂ Fn X₂ Nn T₂ ?hk ?hd O2 ?hI ?hb ?hIb ?hIo hsv hlen ?hj ?turn ?done ?ht
  case hk => rfl
  case ht => intro _ _; rfl
  case hd => ktr_room
  case hI => omega
  case hb => omega
  case hIb => omega
  case hIo => exact ⟨by omega, (‹_ ∧ _ ∧ _ ∧ _ ∧ _ ∧ _ ∧ _ ∧ AllLt _ own›).2.2.2.2.2.2.2⟩
  case hj => exact ⟨none, [], _, mext ["ch", "fiter", "token", "self"] ⟨rfl, rfl, rfl, rfl, trivial⟩ (by intro y hy; simp only [Off] at hy; simp [getMap, mput, mnil, hy]), by simpa using hlen, .inl ⟨rfl, hT⟩⟩
  case done =>
    rintro m₁ news₁ h tk ⟨vch, acc, tt, rfl, hl, hT'⟩ F₃ N₃ A₃
    clear Fn Nn
    k_steps
    rename Fr _ _ _ _ => Fz
    rename News _ _ _ _ => Nz
    refine fin hgk Fz Nz A₃ ?_
    rcases hT' with ⟨rfl, h⟩ | ⟨_, h⟩
    · rw [h, lexO]
    · exact h
  case turn =>
    rintro c r u m₁ news₁ h tk ⟨vch, acc, tt, rfl, hl, hT'⟩ F₃ N₃ ⟨ln', t5', svs', k', rfl, hsv', hend', hlen'⟩
    clear Fn Nn
    have ho := O.off
    rcases hT' with ⟨rfl, hT1⟩ | ⟨h9, _⟩
    rotate_left
    · exact nomatch h9
    have hh1 := head_len r
    have hh2 := tail_take r
    simp only [List.length_nil, Nat.zero_add, List.length_cons] at hl
    k_steps
    refine IfAt.go ?_
    k_steps
    · have e1 := occ_no ‹_›
      obtain rfl : c = 34 := ch_is (x := "\"") (by decide +kernel) ‹_›
      rename Fr _ _ _ _ => Fn
      rename News _ _ _ _ => Nn
      refine' Mine.ci_J3 (fun I => QJ T G.x I) B₂ Fn X₂ Nn T₂ ?hk ?hd O2 ?hI ?hb ?hIb ?hIo hsv' hlen' ?hj ?turn ?done ?ht
      case hk => rfl
      case ht => intro _ _; rfl
      case hd => ktr_room
      case hI => omega
      case hb => omega
      case hIb => omega
      case hIo => exact ⟨by omega, (‹_ ∧ _ ∧ _ ∧ _ ∧ _ ∧ _ ∧ _ ∧ AllLt _ own›).2.2.2.2.2.2.2⟩
      case hj => exact ⟨_, [], _, mext ["ch", "fiter", "token", "self"] ⟨rfl, rfl, rfl, rfl, trivial⟩ (by intro y hy; simp only [Off] at hy; simp [getMap, mput, mnil, hy]), by simpa using hlen', by rw [hT1, lexO_q e1]⟩
      case done =>
        rintro m₁ news₁ h tk ⟨vch, acc, tt, rfl, hl, hT'⟩ F₃ N₃ A9
        obtain ⟨ln9, t9, svs9, k9, rfl, hsv9, hend9, hlen9⟩ := id A9
        clear Fn Nn
        k_steps
        rename Fr _ _ _ _ => Fz
        rename News _ _ _ _ => Nz
        exact CEnd.intro true Fz Nz hsv9 hend9 (Nat.zero_le _) hlen' ⟨_, acc, _, mext ["ch", "fiter", "token", "self"] ⟨rfl, rfl, rfl, rfl, trivial⟩ (by intro y hy; simp only [Off] at hy; simp [getMap, mput, mnil, hy]), hl, .inr ⟨rfl, hT'⟩⟩
      case turn =>
        rintro c r' u m₁ news₁ h tk ⟨vch, acc, tt, rfl, hl, hT'⟩ F₃ N₃ A9
        obtain ⟨ln9, t9, svs9, k9, rfl, hsv9, hend9, hlen9⟩ := id A9
        clear Fn Nn
        have hh1 := head_len r'
        have hh2 := tail_take r'
        simp only [List.length_cons] at hl
        k_steps
        · obtain rfl : c = 34 := ch_is (x := "\"") (by decide +kernel) ‹_›
          rename Fr _ _ _ _ => Fz
          rename News _ _ _ _ => Nz
          exact fin hgk Fz Nz A9 (by rw [hT', lexQ_q])
        refine IfAt.go ?_
        k_steps
        · obtain rfl : c = 92 := ch_is (x := "\\") (by decide +kernel) ‹_›
          rename Fr _ _ _ _ => Fz
          rename News _ _ _ _ => Nz
          refine CEnd.intro false Fz Nz (by assumption) (fun e => nomatch e) ?_ hlen9 ⟨_, acc ++ r'.take 1, _, (by rw [st_head]; exact mext ["ch", "fiter", "token", "self"] ⟨rfl, rfl, rfl, rfl, trivial⟩ (by intro y hy; simp only [Off] at hy; simp [getMap, mput, mnil, hy])), by rw [List.length_append]; omega, by rw [hT', lexQ_e]⟩
          omega
        · have e2 := ch_not (x := "\"") (k := 34) (by decide +kernel) ‹_›
          have e3 := ch_not (x := "\\") (k := 92) (by decide +kernel) ‹_›
          rename Fr _ _ _ _ => Fz
          rename News _ _ _ _ => Nz
          refine CEnd.intro false Fz Nz hsv9 hend9 (Nat.le_refl _) hlen9 ⟨_, acc ++ [c], _, (by rw [st_one]; exact mext ["ch", "fiter", "token", "self"] ⟨rfl, rfl, rfl, rfl, trivial⟩ (by intro y hy; simp only [Off] at hy; simp [getMap, mput, mnil, hy])), by rw [List.length_append, List.length_singleton]; omega, by rw [hT', lexQ_o e2 e3]⟩
    · have e1 := occ_no ‹_›
      have e2 := ch_not (x := "\"") (k := 34) (by decide +kernel) ‹_›
      refine' IfAt.cutS (GetCut w.params g L' G ((G.pb, W.listOf #[] pk) :: own) T r.length I0 q0 (tkb0 + 1 + 1 + 1) tt) ?cut ?rest
      case cut =>
        refine IfAt.go ?_
        k_steps
        · obtain rfl : c = 92 := ch_is (x := "\\") (by decide +kernel) ‹_›
          rename Fr _ _ _ _ => Fz
          rename News _ _ _ _ => Nz
          exact ⟨_, _, r.take 1, _, _, _, _, _, _, rfl, rfl, Fr.eq Fz (by rw [st_hd]; exact mext ["ch", "fiter", "token", "self"] ⟨rfl, rfl, rfl, rfl, trivial⟩ (by intro y hy; simp only [Off] at hy; simp [getMap, mput, mnil, hy])), Nz, by assumption, by omega, by omega, by rw [hT1, lexO_e e1]⟩
        · have e3 := ch_not (x := "\\") (k := 92) (by decide +kernel) ‹_›
          rename Fr _ _ _ _ => Fz
          rename News _ _ _ _ => Nz
          exact ⟨_, _, [c], _, _, _, _, _, _, rfl, rfl, Fr.eq Fz (by exact mext ["ch", "fiter", "token", "self"] ⟨rfl, rfl, rfl, rfl, trivial⟩ (by intro y hy; simp only [Off] at hy; simp [getMap, mput, mnil, hy])), Nz, hsv', by rw [List.length_singleton]; omega, Nat.le_refl _, by rw [hT1, lexO_o e1 e2 e3]⟩
      case rest =>
        rename Fr _ _ _ _ => Fq
        rename News _ _ _ _ => Nq
        rintro f s' ⟨h7, tk7, a9, u9, ln7, t7, svs7, k7, r2, rfl, rfl, F7, N7, hsv2, hl9, hl8, hT9⟩
        have hlen2 : r2.length ≤ 1000 := Nat.le_trans hl8 hlen'
        dsimp only
        refine wpAny_execs_cons ?_
        k_steps
        rename Fr _ _ _ _ => Fn
        rename News _ _ _ _ => Nn
        refine' Mine.ci_J3 (fun I => BJ G.ws.cps.toList T G.x I) B₂ Fn X₂ Nn T₂ ?hk ?hd O2 ?hI ?hb ?hIb ?hIo hsv2 hlen2 ?hj ?turn ?done ?ht
        case hk => rfl
        case ht => intro _ _; rfl
        case hd => ktr_room
        case hI => omega
        case hb => omega
        case hIb => omega
        case hIo => exact ⟨by omega, (‹_ ∧ _ ∧ _ ∧ _ ∧ _ ∧ _ ∧ _ ∧ AllLt _ own›).2.2.2.2.2.2.2⟩
        case hj => exact ⟨_, a9, _, (by rw [st_app]; exact mext ["ch", "fiter", "token", "self"] ⟨rfl, rfl, rfl, rfl, trivial⟩ (by intro y hy; simp only [Off] at hy; simp [getMap, mput, mnil, hy])), hl9, hT9⟩
        case done =>
          rintro m₁ news₁ h tk ⟨vch, acc, tt, rfl, hl, hT'⟩ F₃ N₃ A9
          obtain ⟨ln9, t9, svs9, k9, rfl, hsv9, hend9, hlen9⟩ := id A9
          clear Fn Nn
          k_steps
          rename Fr _ _ _ _ => Fz
          rename News _ _ _ _ => Nz
          exact CEnd.intro true Fz Nz hsv9 hend9 (Nat.zero_le _) hlen' ⟨_, acc, _, mext ["ch", "fiter", "token", "self"] ⟨rfl, rfl, rfl, rfl, trivial⟩ (by intro y hy; simp only [Off] at hy; simp [getMap, mput, mnil, hy]), hl, .inr ⟨rfl, hT'⟩⟩
        case turn =>
          rintro c r' u m₁ news₁ h tk ⟨vch, acc, tt, rfl, hl, hT'⟩ F₃ N₃ A9
          obtain ⟨ln9, t9, svs9, k9, rfl, hsv9, hend9, hlen9⟩ := id A9
          clear Fn Nn
          have hh1 := head_len r'
          have hh2 := tail_take r'
          simp only [List.length_cons] at hl
          k_steps
          · refine IfAt.go ?_
            k_steps
            · have e2 := occ_no ‹_›
              obtain rfl : c = 92 := ch_is (x := "\\") (by decide +kernel) ‹_›
              rename Fr _ _ _ _ => Fz
              rename News _ _ _ _ => Nz
              refine CEnd.intro (J := BJ G.ws.cps.toList T G.x _) false Fz Nz (by assumption) (fun e => nomatch e) ?_ hlen9 ⟨_, acc ++ r'.take 1, _, (by rw [st_head]; exact mext ["ch", "fiter", "token", "self"] ⟨rfl, rfl, rfl, rfl, trivial⟩ (by intro y hy; simp only [Off] at hy; simp [getMap, mput, mnil, hy])), by rw [List.length_append]; omega, by rw [hT', lexB_e e2]⟩
              omega
            · have e2 := occ_no (c := c) ‹_›
              have e3 := ch_not (x := "\\") (k := 92) (by decide +kernel) ‹(({ cps := #[c] } : Str) == _) = false›
              rename Fr _ _ _ _ => Fz
              rename News _ _ _ _ => Nz
              exact CEnd.intro (J := BJ G.ws.cps.toList T G.x _) false Fz Nz hsv9 hend9 (Nat.le_refl _) hlen9 ⟨_, acc ++ [c], _, (by rw [st_one]; exact mext ["ch", "fiter", "token", "self"] ⟨rfl, rfl, rfl, rfl, trivial⟩ (by intro y hy; simp only [Off] at hy; simp [getMap, mput, mnil, hy])), by rw [List.length_append, List.length_singleton]; omega, by rw [hT', lexB_o e2 e3]⟩
          · have e2 := occ_yes ‹_›
            rename Fr _ _ _ _ => Fz
            rename News _ _ _ _ => Nz
            exact fin hgk Fz Nz A9 (by rw [hT', lexB_w e2])
    · rename Fr _ _ _ _ => Fz
      rename News _ _ _ _ => Nz
      have e1 := occ_yes ‹_›
      exact CEnd.intro (J := OJ G.ws.cps.toList T G.x _) false Fz Nz hsv' hend' (Nat.le_refl _) hlen' ⟨_, [], _, mext ["ch", "fiter", "token", "self"] ⟨rfl, rfl, rfl, rfl, trivial⟩ (by intro y hy; simp only [Off] at hy; simp [getMap, mput, mnil, hy]), by simpa using hlen', .inl ⟨rfl, by rw [hT1, lexO_w e1]⟩⟩
theorem get_token_readU {G : LexG} {ln : Int} {t5 : Tok} {svs : List Value} {k pk : Nat} {own : List (Addr × Obj)} {chs : List Nat}
  (B : Below A₀ base outer h₀) (F : Fr h₀ L s.heap m) (X : (Mine.hdm.heap_1 w.params).In h₀) (N : News h₀ L s.heap news) (T₀ : Top p loose mean mg mb h₀) (hk : cs.kind = .function) (hd : dp + 20 < recursionLimit)
  (O : LexOk PySem.Challenge.pw_pg0318_02 w (Mine.hdm.heap_1 w.params) p loose mean mg mb G own) (hpb : @LT.lt Nat _ G.sg G.pb ∧ @LT.lt Nat _ G.d G.pb)
  (hsub : ∀ q ∈ lexLed w.params G ln t5 svs k ((G.pb, W.listOf #[] pk) :: own), q ∈ news) (hsv : SgAre svs chs) (hlen : chs.length ≤ 1000)
  (ret : ∀ tk h' tk' svs' k' ln' t5', SgAre svs' (lexO G.ws.cps.toList chs).2 → ∃ news', UpdS [(G.d, lexDict w.params G.ws ln' G.st G.pb G.t1 G.t2 G.t3 G.t4 t5' G.t6), (G.sg, W.listOf svs'.toArray k')] news news' ∧ (Fr h₀ L h' m → News h₀ L h' news' → Q (.str (stOf (lexO G.ws.cps.toList chs).1) tk) {s with heap := h', toks := tk'})) :
  wpAny (model PySem.Challenge.pw_pg0318_02 w) (ktrTop dp un gd cn cs L a ccd cl outer) (call (.ref 66) [.ref G.x]) Q E s :=
  get_token_read rfl B F X N T₀ hk hd O hpb hsub hsv hlen fun tk h' tk' svs' k' ln' t5' F' K' N' S' =>
    let ⟨_, u, r⟩ := ret tk h' tk' svs' k' ln' t5' S'
    r F' (News.updS u N K' N')
end
end Mine

theorem Mine.tt_p_lxi : True := by w_top off; exact trivial
namespace Mine
-- THE LEXER: pushback taken, pushed; made
local macro_rules | `(tactic| walk_at "call builtin:list.pop") => Mine.ln `Mine.pop0_L 4 0 true "AaBaCUDo" none 0 0 "Iabc W"
local macro_rules | `(tactic| walk_at "getMethod ref") => Mine.ln `Mine.getMethod_list 3 0 true "AaBmCf" none 0 0 ""
section
variable {w : World} {dp un : Nat} {gd : Option (List Code)} {cn : Str} {cs : Scope} {a : Addr} {ccd : Value} {cl : List (Str × Addr)} {outer : List Env} {A₀ : Around} {base h₀ : Heap} {L : Addr} {m mg mb : Str → Option Value} {p : Program} {loose : List Str} {mean : ExcName → Option Value} {s : Shared} {Q E : Value → Shared → Prop} {news : List (Addr × Obj)}
theorem get_token_pop {x d st pb : Addr} {ws : Str} {ln : Int} {t1 t2 t3 t4 t5 t6 : Tok} {v : Value} {pvs : List Value} {pk : Nat}
  (B : Below A₀ base outer h₀) (F : Fr h₀ L s.heap m) (X : (Mine.hdm.heap_1 w.params).In h₀) (N : News h₀ L s.heap news) (T₀ : Top p loose mean mg mb h₀) (hk : cs.kind = .function) (hd : dp + 20 < recursionLimit)
  (hlt : @LT.lt Nat _ d x ∧ @LT.lt Nat _ x pb) (hz : pvs.length ≤ 1000)
  (hsub : ∀ q ∈ [(x, instObj 76 d), (d, lexDict w.params ws ln st pb t1 t2 t3 t4 t5 t6), (pb, W.listOf (v :: pvs).toArray pk)], q ∈ news)
  (ret : ∀ h' tk', Fr h₀ L h' m → Keeps [pb] s.heap h' → News h₀ L h' [(pb, W.listOf pvs.toArray (pk + 1))] → Q v {s with heap := h', toks := tk'}) :
  wpAny (model PySem.Challenge.pw_pg0318_02 w) (ktrTop dp un gd cn cs L a ccd cl outer) (call (.ref 66) [.ref x]) Q E s := by
  refine wpAny_call ?_
  have N₁ := News.sub N hsub
  ktr_enter
  intro g L' h₂ hgs hgk hgn F₂ N₂ B₂ X₂ T₂
  clear hgs hgn B N₁
  change Fr g L' h₂ (mput "self" (some (.ref x)) mnil) at F₂
  try dsimp only
  k_fold
  try (refine Mine.set_walk ?_; intro A₉ e₉)
  k_steps
  rename Fr _ _ _ _ => Fz
  rename News _ _ _ _ => Nz
  obtain ⟨F', K', N'⟩ := leave_S [pb] F N hsub hgk Fz Nz (List.forall_mem_cons.mpr ⟨.inl (by k_mem), List.forall_mem_cons.mpr ⟨.inl (by k_mem), List.forall_mem_cons.mpr ⟨.inr (.head _), List.forall_mem_nil _⟩⟩⟩)
  exact ret _ _ F' K' (News.sub N' (sub_cons (by k_mem) sub_nil))
theorem push_token {x d st pb : Addr} {ws : Str} {ln : Int} {t1 t2 t3 t4 t5 t6 : Tok} {v : Value} {pvs : List Value} {pk : Nat}
  (B : Below A₀ base outer h₀) (F : Fr h₀ L s.heap m) (X : (Mine.hdm.heap_1 w.params).In h₀) (N : News h₀ L s.heap news) (T₀ : Top p loose mean mg mb h₀) (hk : cs.kind = .function) (hd : dp + 20 < recursionLimit)
  (hlt : @LT.lt Nat _ d x ∧ @LT.lt Nat _ x pb) (hz : pvs.length ≤ 1000)
  (hsub : ∀ q ∈ [(x, instObj 76 d), (d, lexDict w.params ws ln st pb t1 t2 t3 t4 t5 t6), (pb, W.listOf pvs.toArray pk)], q ∈ news)
  (ret : ∀ h' tk', Fr h₀ L h' m → Keeps [pb] s.heap h' → News h₀ L h' [(pb, W.listOf (pvs ++ [v]).toArray (pk + 1))] → Q .none {s with heap := h', toks := tk'}) :
  wpAny (model PySem.Challenge.pw_pg0318_02 w) (ktrTop dp un gd cn cs L a ccd cl outer) (call (.ref 73) [.ref x, v]) Q E s := by
  refine wpAny_call ?_
  have N₁ := News.sub N hsub
  have hz2 : pvs.toArray.size ≤ 1000 := by rw [List.size_toArray]; exact hz
  ktr_enter
  intro g L' h₂ hgs hgk hgn F₂ N₂ B₂ X₂ T₂
  clear hgs hgn B N₁
  change Fr g L' h₂ (mput "token" (some v) (mput "self" (some (.ref x)) mnil)) at F₂
  try dsimp only
  k_fold
  try (refine Mine.set_walk ?_; intro A₉ e₉)
  k_steps
  rename Fr _ _ _ _ => Fz
  rename News _ _ _ _ => Nz
  rw [List.push_toArray] at Nz
  obtain ⟨F', K', N'⟩ := leave_S [pb] F N hsub hgk Fz Nz (List.forall_mem_cons.mpr ⟨.inl (by k_mem), List.forall_mem_cons.mpr ⟨.inl (by k_mem), List.forall_mem_cons.mpr ⟨.inr (.head _), List.forall_mem_nil _⟩⟩⟩)
  exact ret _ _ F' K' (News.sub N' (sub_cons (by k_mem) sub_nil))
-- the same, for a ledger in any order
theorem get_token_popU {x d st pb : Addr} {ws : Str} {ln : Int} {t1 t2 t3 t4 t5 t6 : Tok} {v : Value} {pvs : List Value} {pk : Nat}
  (B : Below A₀ base outer h₀) (F : Fr h₀ L s.heap m) (X : (Mine.hdm.heap_1 w.params).In h₀) (N : News h₀ L s.heap news) (T₀ : Top p loose mean mg mb h₀) (hk : cs.kind = .function) (hd : dp + 20 < recursionLimit)
  (hlt : @LT.lt Nat _ d x ∧ @LT.lt Nat _ x pb) (hz : pvs.length ≤ 1000)
  (m1 : (x, instObj 76 d) ∈ news) (m2 : (d, lexDict w.params ws ln st pb t1 t2 t3 t4 t5 t6) ∈ news) (m3 : (pb, W.listOf (v :: pvs).toArray pk) ∈ news)
  (ret : ∀ h' tk', ∃ news', UpdS [(pb, W.listOf pvs.toArray (pk + 1))] news news' ∧ (Fr h₀ L h' m → News h₀ L h' news' → Q v {s with heap := h', toks := tk'})) :
  wpAny (model PySem.Challenge.pw_pg0318_02 w) (ktrTop dp un gd cn cs L a ccd cl outer) (call (.ref 66) [.ref x]) Q E s :=
  get_token_pop B F X N T₀ hk hd hlt hz (sub_cons m1 (sub_cons m2 (sub_cons m3 sub_nil))) fun h' tk' F' K' N' =>
    let ⟨_, u, r⟩ := ret h' tk'
    r F' (News.updS u N K' N')
theorem push_tokenU {x d st pb : Addr} {ws : Str} {ln : Int} {t1 t2 t3 t4 t5 t6 : Tok} {v : Value} {pvs : List Value} {pk : Nat}
  (B : Below A₀ base outer h₀) (F : Fr h₀ L s.heap m) (X : (Mine.hdm.heap_1 w.params).In h₀) (N : News h₀ L s.heap news) (T₀ : Top p loose mean mg mb h₀) (hk : cs.kind = .function) (hd : dp + 20 < recursionLimit)
  (hlt : @LT.lt Nat _ d x ∧ @LT.lt Nat _ x pb) (hz : pvs.length ≤ 1000)
  (m1 : (x, instObj 76 d) ∈ news) (m2 : (d, lexDict w.params ws ln st pb t1 t2 t3 t4 t5 t6) ∈ news) (m3 : (pb, W.listOf pvs.toArray pk) ∈ news)
  (ret : ∀ h' tk', ∃ news', UpdS [(pb, W.listOf (pvs ++ [v]).toArray (pk + 1))] news news' ∧ (Fr h₀ L h' m → News h₀ L h' news' → Q .none {s with heap := h', toks := tk'})) :
  wpAny (model PySem.Challenge.pw_pg0318_02 w) (ktrTop dp un gd cn cs L a ccd cl outer) (call (.ref 73) [.ref x, v]) Q E s :=
  push_token B F X N T₀ hk hd hlt hz (sub_cons m1 (sub_cons m2 (sub_cons m3 sub_nil))) fun h' tk' F' K' N' =>
    let ⟨_, u, r⟩ := ret h' tk'
    r F' (News.updS u N K' N')
end
end Mine

theorem Mine.tt_p_lxm : True := by w_top off; exact trivial
namespace Mine
-- THE LEXER: made
section
variable {w : World} {dp un : Nat} {gd : Option (List Code)} {cn : Str} {cs : Scope} {a : Addr} {ccd : Value} {cl : List (Str × Addr)} {outer : List Env} {A₀ : Around} {base h₀ : Heap} {L : Addr} {m mg mb : Str → Option Value} {p : Program} {loose : List Str} {mean : ExcName → Option Value} {s : Shared} {Q E : Value → Shared → Prop} {news : List (Addr × Obj)}
theorem lex_make {st : Addr} (B : Below A₀ base outer h₀) (F : Fr h₀ L s.heap m) (X : (Mine.hdm.heap_1 w.params).In h₀) (N : News h₀ L s.heap news) (T : Top p loose mean mg mb h₀) (hk : cs.kind = .function) (hd : dp + 20 < recursionLimit)
  (ret : ∀ x d pb t1 t2 t3 t4 t5 t6 h' tk', Fr h₀ L h' m → News h₀ L h' ((pb, W.listOf ([] : List Value).toArray 0) :: (x, instObj 76 d) :: (d, lexDict w.params "\n\t\r " 1 st pb t1 t2 t3 t4 t5 t6) :: news) → (∀ p ∈ news, p.1 < d) → d < x → x < pb → Q (.ref x) {s with heap := h', toks := tk'}) :
  wpAny (model PySem.Challenge.pw_pg0318_02 w) (ktrTop dp un gd cn cs L a ccd cl outer) (call (.ref 76) [.ref st]) Q E s := by
  refine' call_cls ?k1 ?k2 ?k3 ?k4 ?k5 ?k6 ?_; (case k1 => k_asm); (case k2 => k_asm); (case k3 => k_asm); (case k4 => k_is); (case k5 => k_is); (case k6 => k_is)
  intro x d h₁ F₁ Nall l1 l2
  have N₁ : News h₀ L h₁ [(x, instObj 76 d), (d, dictOf [] 0)] := News.sub Nall (sub_cons (.head _) (sub_cons (.tail _ (.head _)) sub_nil))
  have N₀ : News h₀ L h₁ news := News.sub Nall fun p hp => .tail _ (.tail _ hp)
  have hbk : ∀ {g h' : Heap} {L' pb : Addr} {m' : Str → Option Value} {t1 t2 t3 t4 t5 t6 tk' : Nat}, Keeps [x, d] h₁ g → Fr g L' h' m' →
      News g L' h' [(pb, W.listOf ([] : List Value).toArray 0), (x, instObj 76 d), (d, lexDict w.params "\n\t\r " 1 st pb t1 t2 t3 t4 t5 t6)] → @LT.lt Nat _ x pb → Q (.ref x) {s with heap := h', toks := tk'} := by
    intro g h' L' pb m' t1 t2 t3 t4 t5 t6 tk' hgk F' N' hx
    obtain ⟨F'', N'', hk⟩ := leave F₁ N₁ hgk F' N'
    have N3 : News h₀ L h' news := News.off N₀ hk fun p hp q => by
      have := l1 p hp
      simp only [List.map_cons, List.map_nil, List.mem_cons, List.not_mem_nil, or_false] at q
      rcases q with q | q
      · rw [q] at this; exact Nat.lt_asymm this l2
      · rw [q] at this; exact Nat.lt_irrefl _ this
    exact ret x d pb t1 t2 t3 t4 t5 t6 h' tk' F'' (fun p hp => by
      simp only [List.mem_cons] at hp
      rcases hp with h | h | h | h
      · exact N'' p (h ▸ .head _)
      · exact N'' p (h ▸ .tail _ (.head _))
      · exact N'' p (h ▸ .tail _ (.tail _ (.head _)))
      · exact N3 p h) l1 l2 hx
  clear Nall N₀ l1
  (try k_lt2 l2)
  ktr_enter
  intro g L' h₂ hgs hgk hgn F₂ N₂ B₂ X₂ T₂
  clear hgs hgn B N
  try dsimp only
  change Fr g L' h₂ (mput "fp" (some (.ref st)) (mput "self" (some (.ref x)) mnil)) at F₂
  k_fold
  try (refine Mine.set_walk ?_; intro A₉ e₉)
  k_steps
  rename Fr _ _ _ _ => Fz
  rename News _ _ _ _ => Nz
  refine ⟨rfl, ?_⟩
  exact hbk hgk Fz Nz (by omega)
end
end Mine

theorem Mine.tt_p_hd : True := by w_top off; exact trivial
namespace Mine
-- HEADERS
section
variable {w : World} {A : Around} {E : Value → Shared → Prop} {s : Shared} {h₀ : Heap} {L : Addr} {m : Str → Option Value}
theorem pat_name {x : Str} {t : Tok} {Q : Value → Shared → Prop} (F : Fr h₀ L s.heap m) (X : (Mine.hdm.heap_1 w.params).In h₀) (h : ∀ c ∈ x.cps.toList, okN c = true) (hl : x.length ≤ 1000) (hq : Q .none s) : wpAny (model PySem.Challenge.pw_pg0318_02 w) A (call (.builtin "re.Pattern.search") [.ref 156, .str x t]) Q E s :=
  sre_search codeN (F.keep _ _ (X 156 _ rfl)) (F.keep _ _ (X 155 _ rfl)) (by decide +kernel) (by decide +kernel) (none_of okN (fun _ => setN) h) (by omega) hq
theorem pat_value {x : Str} {t : Tok} {Q : Value → Shared → Prop} (F : Fr h₀ L s.heap m) (X : (Mine.hdm.heap_1 w.params).In h₀) (h : ∀ c ∈ x.cps.toList, okV c = true) (hl : x.length ≤ 1000) (hq : Q .none s) : wpAny (model PySem.Challenge.pw_pg0318_02 w) A (call (.builtin "re.Pattern.search") [.ref 161, .str x t]) Q E s :=
  sre_search codeV (F.keep _ _ (X 161 _ rfl)) (F.keep _ _ (X 160 _ rfl)) (by decide +kernel) (by decide +kernel) (none_of okV (fun _ => setV) h) (by omega) hq
theorem pat_meth_n {pl : Sem Bool} {Q : Value × List Value → Shared → Prop} (F : Fr h₀ L s.heap m) (X : (Mine.hdm.heap_1 w.params).In h₀) (hq : Q (.builtin "re.Pattern.search", [.ref 156]) s) : wpAny (model PySem.Challenge.pw_pg0318_02 w) A (getMethod (.ref 156) "search" pl) Q E s :=
  getMethod_pat (F.keep _ _ (X 156 _ rfl)) rfl rfl hq
theorem pat_meth_v {pl : Sem Bool} {Q : Value × List Value → Shared → Prop} (F : Fr h₀ L s.heap m) (X : (Mine.hdm.heap_1 w.params).In h₀) (hq : Q (.builtin "re.Pattern.search", [.ref 161]) s) : wpAny (model PySem.Challenge.pw_pg0318_02 w) A (getMethod (.ref 161) "search" pl) Q E s :=
  getMethod_pat (F.keep _ _ (X 161 _ rfl)) rfl rfl hq
end
local macro_rules | `(tactic| walk_at "getMethod ref") => `(tactic| (k_here; k_dflt (first | (refine' Mine.pat_meth_n ?k1 ?k2 ?_; (case k1 => k_asm); (case k2 => k_asm)) | (refine' Mine.pat_meth_v ?k1 ?k2 ?_; (case k1 => k_asm); (case k2 => k_asm))); k_whole))
local macro_rules | `(tactic| walk_at "call builtin:re.Pattern.search") => `(tactic| (k_here; k_dflt (first | (refine' Mine.pat_name ?k1 ?k2 ?k3 ?k4 ?_; (case k1 => k_asm); (case k2 => k_asm); (case k3 => assumption); (case k4 => assumption)) | (refine' Mine.pat_value ?k1 ?k2 ?k3 ?k4 ?_; (case k1 => k_asm); (case k2 => k_asm); (case k3 => assumption); (case k4 => assumption))); k_whole))
section
variable {w : World} {dp un : Nat} {gd : Option (List Code)} {cn : Str} {cs : Scope} {a : Addr} {ccd : Value} {cl : List (Str × Addr)} {outer : List Env} {A₀ : Around} {base h₀ : Heap} {L : Addr} {m mg mb : Str → Option Value} {p : Program} {loose : List Str} {mean : ExcName → Option Value} {s : Shared} {Q E : Value → Shared → Prop} {news : List (Addr × Obj)}
theorem conv_name {x : Addr} {v : Str} {t : Tok}
  (B : Below A₀ base outer h₀) (F : Fr h₀ L s.heap m) (X : (Mine.hdm.heap_1 w.params).In h₀) (N : News h₀ L s.heap news) (T₀ : Top p loose mean mg mb h₀) (hk : cs.kind = .function) (hd : dp + 5 < recursionLimit)
  (hok : ∀ c ∈ v.cps.toList, okN c = true) (hl : v.length ≤ 1000)
  (ret : ∀ h' tk', Fr h₀ L h' m → News h₀ L h' news → Q (.str v t) {s with heap := h', toks := tk'}) :
  wpAny (model PySem.Challenge.pw_pg0318_02 w) (ktrTop dp un gd cn cs L a ccd cl outer) (call (.ref 191) [.ref x, .str v t] [("name", .bool true)]) Q E s := by
  refine wpAny_call ?_
  have N₁ : News h₀ L s.heap [] := News.sub N sub_nil
  ktr_enter
  intro g L' h₂ hgs hgk hgn F₂ N₂ B₂ X₂ T₂
  clear hgs hgn B N₁
  change Fr g L' h₂ (mput "name" (some (.bool true)) (mput "value" (some (.str v t)) (mput "self" (some (.ref x)) mnil))) at F₂
  try dsimp only
  k_fold
  try (refine Mine.set_walk ?_; intro A₉ e₉)
  k_steps
  rename Fr _ _ _ _ => Fz
  rename News _ _ _ _ => Nz
  obtain ⟨F', N'⟩ := leave_ro F N sub_nil hgk Fz Nz sub_nil
  exact ret _ _ F' N'
theorem conv_value {x : Addr} {v : Str} {t : Tok}
  (B : Below A₀ base outer h₀) (F : Fr h₀ L s.heap m) (X : (Mine.hdm.heap_1 w.params).In h₀) (N : News h₀ L s.heap news) (T₀ : Top p loose mean mg mb h₀) (hk : cs.kind = .function) (hd : dp + 5 < recursionLimit)
  (hok : ∀ c ∈ v.cps.toList, okV c = true) (hl : v.length ≤ 1000)
  (ret : ∀ h' tk', Fr h₀ L h' m → News h₀ L h' news → Q (.str v t) {s with heap := h', toks := tk'}) :
  wpAny (model PySem.Challenge.pw_pg0318_02 w) (ktrTop dp un gd cn cs L a ccd cl outer) (call (.ref 191) [.ref x, .str v t] [("name", .bool false)]) Q E s := by
  refine wpAny_call ?_
  have N₁ : News h₀ L s.heap [] := News.sub N sub_nil
  ktr_enter
  intro g L' h₂ hgs hgk hgn F₂ N₂ B₂ X₂ T₂
  clear hgs hgn B N₁
  change Fr g L' h₂ (mput "name" (some (.bool false)) (mput "value" (some (.str v t)) (mput "self" (some (.ref x)) mnil))) at F₂
  try dsimp only
  k_fold
  try (refine Mine.set_walk ?_; intro A₉ e₉)
  k_steps
  rename Fr _ _ _ _ => Fz
  rename News _ _ _ _ => Nz
  obtain ⟨F', N'⟩ := leave_ro F N sub_nil hgk Fz Nz sub_nil
  exact ret _ _ F' N'
end
end Mine

theorem Mine.tt_p_hd2 : True := by w_top off; exact trivial
namespace Mine
-- U-WHOLE
-- HEADERS: its list of pairs
abbrev tup2 (a b : Value) : Obj := { cls := .type "tuple", data := .seq #[a, b] }
inductive PairsIn (led : List (Addr × Obj)) : List Value → List (Str × Str) → Prop where
  | nil : PairsIn led [] []
  | cons {t : Addr} {n v : Str} {tn tv : Tok} {vs : List Value} {ps : List (Str × Str)} : (t, tup2 (.str n tn) (.str v tv)) ∈ led → PairsIn led vs ps → PairsIn led (.ref t :: vs) ((n, v) :: ps)
theorem PairsIn.mono {led led' : List (Addr × Obj)} {vs : List Value} {ps : List (Str × Str)} (h : PairsIn led vs ps) (k : ∀ p ∈ led, p ∈ led') : PairsIn led' vs ps := by
  induction h with
  | nil => exact .nil
  | cons hm _ ih => exact .cons (k _ hm) ih
theorem PairsIn.length {led : List (Addr × Obj)} {vs : List Value} {ps : List (Str × Str)} (h : PairsIn led vs ps) : vs.length = ps.length := by
  induction h with
  | nil => rfl
  | cons _ _ ih => rw [List.length_cons, List.length_cons, ih]
theorem PairsIn.get {led : List (Addr × Obj)} {vs : List Value} {ps : List (Str × Str)} (h : PairsIn led vs ps) : ∀ {i : Nat} {v : Value}, vs[i]? = some v → ∃ t n u tn tu, v = .ref t ∧ ps[i]? = some (n, u) ∧ (t, tup2 (.str n tn) (.str u tu)) ∈ led := by
  induction h with
  | nil => intro i v h; simp at h
  | cons hm _ ih =>
    intro i v h
    cases i with
    | zero => simp at h; exact ⟨_, _, _, _, _, h.symm, rfl, hm⟩
    | succ i => exact ih (by simpa using h)
theorem PairsIn.snoc {led : List (Addr × Obj)} {vs : List Value} {ps : List (Str × Str)} {t : Addr} {n v : Str} {tn tv : Tok} (h : PairsIn led vs ps) (hm : (t, tup2 (.str n tn) (.str v tv)) ∈ led) : PairsIn led (vs ++ [.ref t]) (ps ++ [(n, v)]) := by
  induction h with
  | nil => exact .cons hm .nil
  | cons hm' _ ih => exact .cons hm' ih
theorem take_snoc {α : Type} {ps : List α} {i : Nat} {q : α} (h : ps[i]? = some q) : ps.take (i + 1) = ps.take i ++ [q] := by rw [List.take_add_one, h]; rfl
abbrev hdDict (P : Params) (t : Tok) (hl : Addr) : Obj := dictOf [⟨PyData.keyHash P "_headers", .str "_headers" t, .ref hl⟩] 1
local macro_rules | `(tactic| walk_at "call ref") => Mine.ln `Mine.conv_name 9 0 false "AaBaCaDaEaFkHsIOGr" none 0 0 "Iabcd D F"
local macro_rules | `(tactic| walk_at "call ref") => Mine.ln `Mine.conv_value 9 0 false "AaBaCaDaEaFkHsIOGr" none 0 0 "Iabcd D F"
def SrcAt (P : Prop) : Prop := P
theorem src_stop {P : Prop} (h : SrcAt P) : P := h
local macro_rules | `(tactic| walk_at "CompSrcT") => `(tactic| k_dflt (refine' Mine.src_stop ?_))
local macro_rules | `(tactic| walk_at "eval ListComp") => `(tactic| (k_here; k_dflt (refine LCt.ListComp_T (F₀ := by k_asm) (by with_unfolding_all rfl) (by decide) (by rfl) (by decide) (by rfl) ?_)))
local macro_rules | `(tactic| walk_at "α") => `(tactic| k_ne)
local macro_rules | `(tactic| walk_at "setItem ref ref") => Mine.ln `Mine.setItem_all_K 8 0 false "AaBaCfDmEmFαGoHo" none 0 9 "Iab U Icd D F"
section
variable {w : World} {dp un : Nat} {gd : Option (List Code)} {cn : Str} {cs : Scope} {a : Addr} {ccd : Value} {cl : List (Str × Addr)} {outer : List Env} {A₀ : Around} {base h₀ : Heap} {L : Addr} {m mg mb : Str → Option Value} {p : Program} {loose : List Str} {mean : ExcName → Option Value} {s : Shared} {Q E : Value → Shared → Prop} {news : List (Addr × Obj)}
theorem hd_del {R : Result → Shared → Prop} {x d hl : Addr} {t : Tok} {vs : List Value} {k : Nat} {ps : List (Str × Str)} {tups : List (Addr × Obj)} {name : Str} {tn : Tok}
  (B : Below A₀ base outer h₀) (F : Fr h₀ L s.heap m) (X : (Mine.hdm.heap_1 w.params).In h₀) (N : News h₀ L s.heap news) (T₀ : Top p loose mean mg mb h₀) (hk : cs.kind = .function) (hd : dp + 10 < recursionLimit)
  (hlt : @LT.lt Nat _ d x ∧ @LT.lt Nat _ x hl) (hz : ps.length ≤ 1000) (hp : PairsIn tups vs ps) (hpn : ∀ q ∈ ps, q.1.length ≤ 100) (hto : ∀ q ∈ tups, q.1 ≠ hl)
  (hsub : ∀ q ∈ (x, instObj 290 d) :: (d, hdDict w.params t hl) :: (hl, W.listOf vs.toArray k) :: tups, q ∈ news)
  (hok : ∀ c ∈ (Txt.lower name).cps.toList, okN c = true) (hnl : name.length ≤ 100)
  (ret : ∀ h' tk' vs' k', Fr h₀ L h' m → Keeps [hl] s.heap h' → News h₀ L h' [(hl, W.listOf vs'.toArray k')] → PairsIn tups vs' (ps.filter fun q => Txt.lower q.1 != Txt.lower name) → R (.ok (.ret .none)) {s with heap := h', toks := tk'}) :
  codeAny (model PySem.Challenge.pw_pg0318_02 w) (ktrTop dp un gd cn cs L a ccd cl outer) (.call (.ref 210) ⟨[.ref x, .str name tn], []⟩) R s := by
  have N₁ := News.sub N hsub
  kc_enter
  intro g L' h₂ tk₂ cells hgs hgk hgn F₂ N₂ Y₂ B₂ X₂ T₂ l1
  clear hgs hgn B N₁
  k_lt l1
  obtain ⟨oc, hE, dc⟩ := CellsAre.one Y₂
  subst hE
  clear Y₂
  change oc.data = .cell (some (.str name tn)) at dc
  simp only [List.cons_append, List.nil_append] at N₂
  have ho : OwnOff tups [L' + 1, hl] := fun q hq r hr => by
    have := allLt_mem tups l1.2.2.2 q hq
    simp only [List.mem_cons, List.not_mem_nil, or_false] at hr
    rcases hr with rfl | rfl
    · exact Nat.ne_of_lt (Nat.lt_succ_of_lt this)
    · exact hto q hq
  change Fr g L' h₂ (mput "self" (some (.ref x)) mnil) at F₂
  try dsimp only
  show wpAny _ _ _ _ _ _
  k_fold
  try (refine Mine.set_walk ?_; intro A₉ e₉)
  k_steps
  rename Fr _ _ _ _ => Fn
  rename News _ _ _ _ => Nn
  unfold Mine.SrcAt
  refine' Mine.srcT_L (fun _ i ys => PairsIn tups ys ((ps.take i).filter fun q => Txt.lower q.1 != Txt.lower name)) rfl Fn Nn (by k_mem) (by have := hp.length; omega) .nil ?step ?fin
  case step =>
    intro i ys v I oI C oC D m₂ h tk E' hv hJ hC hx F N off ne
    obtain ⟨t9, n9, u9, tn9, tu9, rfl, hps, hmt⟩ := hp.get hv
    have hn9 := hpn _ (List.mem_of_getElem? hps)
    clear Fn Nn
    k_steps
    · refine CmpEnd.intro _ F N sub_self off ⟨rfl, ?_⟩
      rw [take_snoc hps, List.filter_append, List.filter_cons_of_pos (by assumption), List.filter_nil]
      exact hJ.snoc hmt
    · refine CmpEnd.intro _ F N sub_self off ⟨rfl, ?_⟩
      rw [take_snoc hps, List.filter_append, List.filter_cons_of_neg (by simp only [Bool.not_eq_true]; assumption), List.filter_nil, List.append_nil]
      exact hJ
  case fin =>
    intro g9 ys hJ
    have hvl := hp.length
    rw [hvl, List.take_length] at hJ
    have hJl := hJ.length
    have hJ2 := List.length_filter_le (fun q : Str × Str => Txt.lower q.1 != Txt.lower name) ps
    clear Fn Nn
    k_steps
    rename Fr _ _ _ _ => Fz
    rename News _ _ _ _ => Nz
    obtain ⟨F', K', N'⟩ := leave_S [hl] F N hsub hgk Fz Nz (List.forall_mem_cons.mpr ⟨.inl (by k_mem), List.forall_mem_cons.mpr ⟨.inl (by k_mem), List.forall_mem_cons.mpr ⟨.inr (.head _), fun q hq => .inl (.tail _ (.tail _ (.tail _ (.tail _ (.tail _ hq)))))⟩⟩⟩)
    exact ret _ _ _ _ F' K' (News.sub N' (sub_cons (by k_mem) sub_nil)) hJ
theorem hd_delU {x d hl : Addr} {t : Tok} {vs : List Value} {k : Nat} {ps : List (Str × Str)} {tups : List (Addr × Obj)} {name : Str} {tn : Tok}
  (B : Below A₀ base outer h₀) (F : Fr h₀ L s.heap m) (X : (Mine.hdm.heap_1 w.params).In h₀) (N : News h₀ L s.heap news) (T₀ : Top p loose mean mg mb h₀) (hk : cs.kind = .function) (hd : dp + 10 < recursionLimit)
  (m1 : (x, instObj 290 d) ∈ news) (m2 : (d, hdDict w.params t hl) ∈ news) (m3 : (hl, W.listOf vs.toArray k) ∈ news) (m4 : ∀ q ∈ tups, q ∈ news)
  (hlt : @LT.lt Nat _ d x ∧ @LT.lt Nat _ x hl) (hz : ps.length ≤ 1000) (hp : PairsIn tups vs ps) (hpn : ∀ q ∈ ps, q.1.length ≤ 100) (hto : ∀ q ∈ tups, q.1 ≠ hl)
  (hok : ∀ c ∈ (Txt.lower name).cps.toList, okN c = true) (hnl : name.length ≤ 100)
  (ret : ∀ h' tk' vs' k', PairsIn tups vs' (ps.filter fun q => Txt.lower q.1 != Txt.lower name) → vs'.length ≤ ps.length → ∃ news', UpdS [(hl, W.listOf vs'.toArray k')] news news' ∧ (Fr h₀ L h' m → News h₀ L h' news' → Q .none {s with heap := h', toks := tk'})) :
  wpAny (model PySem.Challenge.pw_pg0318_02 w) (ktrTop dp un gd cn cs L a ccd cl outer) (call (.ref 210) [.ref x, .str name tn]) Q E s :=
  wpAny_call (hd_del B F X N T₀ hk hd hlt hz hp hpn hto (sub_cons m1 (sub_cons m2 (sub_cons m3 m4))) hok hnl fun h' tk' vs' k' F' K' N' P' =>
    let ⟨_, u, r⟩ := ret h' tk' vs' k' P' (P'.length ▸ List.length_filter_le _ _)
    r F' (News.updS u N K' N'))
end
end Mine

theorem Mine.tt_p_hd4 : True := by w_top off; exact trivial
namespace Mine
-- U-WHOLE
-- HEADERS: made, stored into
local macro_rules | `(tactic| walk_at "call ref") => Mine.ln `Mine.conv_name 9 0 false "AaBaCaDaEaFkHsIOGr" none 0 0 "Iabcd D F"
local macro_rules | `(tactic| walk_at "call ref") => Mine.ln `Mine.conv_value 9 0 false "AaBaCaDaEaFkHsIOGr" none 0 0 "Iabcd D F"
local macro_rules | `(tactic| walk_at "call ref") => Mine.ln `Mine.hd_delU 18 0 false "AaBaCaDaEaFkNsHmImJmKSLcMoOsPsQsROGr" none 0 9 "Iabcdef U Igh D F"
section
variable {w : World} {dp un : Nat} {gd : Option (List Code)} {cn : Str} {cs : Scope} {a : Addr} {ccd : Value} {cl : List (Str × Addr)} {outer : List Env} {A₀ : Around} {base h₀ : Heap} {L : Addr} {m mg mb : Str → Option Value} {p : Program} {loose : List Str} {mean : ExcName → Option Value} {s : Shared} {Q E : Value → Shared → Prop} {news : List (Addr × Obj)}
theorem hd_make (B : Below A₀ base outer h₀) (F : Fr h₀ L s.heap m) (X : (Mine.hdm.heap_1 w.params).In h₀) (N : News h₀ L s.heap news) (T : Top p loose mean mg mb h₀) (hk : cs.kind = .function) (hd : dp + 20 < recursionLimit)
  (ret : ∀ x d hl t h' tk', Fr h₀ L h' m → News h₀ L h' ((hl, W.listOf ([] : List Value).toArray 0) :: (x, instObj 290 d) :: (d, hdDict w.params t hl) :: news) → (∀ p ∈ news, p.1 < d) → d < x → x < hl → Q (.ref x) {s with heap := h', toks := tk'}) :
  wpAny (model PySem.Challenge.pw_pg0318_02 w) (ktrTop dp un gd cn cs L a ccd cl outer) (call (.ref 290) []) Q E s := by
  refine' call_cls ?k1 ?k2 ?k3 ?k4 ?k5 ?k6 ?_; (case k1 => k_asm); (case k2 => k_asm); (case k3 => k_asm); (case k4 => k_is); (case k5 => k_is); (case k6 => k_is)
  intro x d h₁ F₁ Nall l1 l2
  have N₁ : News h₀ L h₁ [(x, instObj 290 d), (d, dictOf [] 0)] := News.sub Nall (sub_cons (.head _) (sub_cons (.tail _ (.head _)) sub_nil))
  have N₀ : News h₀ L h₁ news := News.sub Nall fun p hp => .tail _ (.tail _ hp)
  have hbk : ∀ {g h' : Heap} {L' hl : Addr} {m' : Str → Option Value} {t tk' : Nat}, Keeps [x, d] h₁ g → Fr g L' h' m' →
      News g L' h' [(hl, W.listOf ([] : List Value).toArray 0), (x, instObj 290 d), (d, hdDict w.params t hl)] → @LT.lt Nat _ x hl → Q (.ref x) {s with heap := h', toks := tk'} := by
    intro g h' L' hl m' t tk' hgk F' N' hx
    obtain ⟨F'', N'', hk⟩ := leave F₁ N₁ hgk F' N'
    have N3 : News h₀ L h' news := News.off N₀ hk fun p hp q => by
      have := l1 p hp
      simp only [List.map_cons, List.map_nil, List.mem_cons, List.not_mem_nil, or_false] at q
      rcases q with q | q
      · rw [q] at this; exact Nat.lt_asymm this l2
      · rw [q] at this; exact Nat.lt_irrefl _ this
    exact ret x d hl t h' tk' F'' (fun p hp => by
      simp only [List.mem_cons] at hp
      rcases hp with h | h | h | h
      · exact N'' p (h ▸ .head _)
      · exact N'' p (h ▸ .tail _ (.head _))
      · exact N'' p (h ▸ .tail _ (.tail _ (.head _)))
      · exact N3 p h) l1 l2 hx
  clear Nall N₀ l1
  (try k_lt2 l2)
  ktr_enter
  intro g L' h₂ hgs hgk hgn F₂ N₂ B₂ X₂ T₂
  clear hgs hgn B N
  try dsimp only
  change Fr g L' h₂ (mput "headers" (some .none) (mput "self" (some (.ref x)) mnil)) at F₂
  show wpAny _ _ _ _ _ _
  k_fold
  try (refine Mine.set_walk ?_; intro A₉ e₉)
  k_steps
  rename Fr _ _ _ _ => Fz
  rename News _ _ _ _ => Nz
  refine ⟨rfl, ?_⟩
  exact hbk hgk Fz Nz (by omega)
theorem hd_set {x d hl : Addr} {t : Tok} {vs : List Value} {k : Nat} {ps : List (Str × Str)} {tups : List (Addr × Obj)} {name val : Str} {tn tv : Tok}
  (B : Below A₀ base outer h₀) (F : Fr h₀ L s.heap m) (X : (Mine.hdm.heap_1 w.params).In h₀) (N : News h₀ L s.heap news) (T₀ : Top p loose mean mg mb h₀) (hk : cs.kind = .function) (hd : dp + 15 < recursionLimit)
  (hlt : @LT.lt Nat _ d x ∧ @LT.lt Nat _ x hl) (hz : ps.length ≤ 900) (hp : PairsIn tups vs ps) (hpn : ∀ q ∈ ps, q.1.length ≤ 100) (hto : ∀ q ∈ tups, q.1 ≠ hl)
  (hsub : ∀ q ∈ (x, instObj 290 d) :: (d, hdDict w.params t hl) :: (hl, W.listOf vs.toArray k) :: tups, q ∈ news)
  (hok : ∀ c ∈ (Txt.lower name).cps.toList, okN c = true) (hnl : name.length ≤ 100) (hok1 : ∀ c ∈ name.cps.toList, okN c = true) (hok2 : ∀ c ∈ val.cps.toList, okV c = true) (hvl : val.length ≤ 1000)
  (ret : ∀ h' tk' vs' k' tp, Fr h₀ L h' m → Keeps [hl] s.heap h' → News h₀ L h' [(hl, W.listOf vs'.toArray k'), (tp, tup2 (.str name tn) (.str val tv))] → (∀ p ∈ news, p.1 ≠ tp) → PairsIn ((tp, tup2 (.str name tn) (.str val tv)) :: tups) vs' ((ps.filter fun q => Txt.lower q.1 != Txt.lower name) ++ [(name, val)]) → Q .none {s with heap := h', toks := tk'}) :
  wpAny (model PySem.Challenge.pw_pg0318_02 w) (ktrTop dp un gd cn cs L a ccd cl outer) (call (.ref 205) [.ref x, .str name tn, .str val tv]) Q E s := by
  refine wpAny_call ?_
  have N₁ := News.sub N hsub
  ktr_enter
  intro g L' h₂ hgs hgk hgn F₂ N₂ B₂ X₂ T₂
  clear hgs hgn B N₁
  have ho : OwnOff tups [hl] := fun q hq r hr => by rw [List.mem_singleton.mp hr]; exact hto q hq
  change Fr g L' h₂ (mput "val" (some (.str val tv)) (mput "name" (some (.str name tn)) (mput "self" (some (.ref x)) mnil))) at F₂
  try dsimp only
  show wpAny _ _ _ _ _ _
  k_fold
  try (refine Mine.set_walk ?_; intro A₉ e₉)
  k_steps
  rename Fr _ _ _ _ => Fz
  rename News _ _ _ _ => Nz
  rw [List.push_toArray] at Nz
  obtain ⟨F', K', N'⟩ := leave_S [hl] F N hsub hgk Fz Nz (List.forall_mem_cons.mpr ⟨.inl (by k_mem), List.forall_mem_cons.mpr ⟨.inl (by k_mem), List.forall_mem_cons.mpr ⟨.inr (.head _), fun q hq => .inl (.tail _ (.tail _ (.tail _ (.tail _ hq))))⟩⟩⟩)
  refine ret _ _ _ _ _ F' K' (News.sub N' (sub_cons (by k_mem) (sub_cons (by k_mem) sub_nil))) (fresh_ne N hgk Nz (.head _) ?_) (PairsIn.snoc (PairsIn.mono (by assumption) fun q hq => .tail _ hq) (.head _))
  obtain ⟨a1, a2, a3, a4⟩ := ‹_ ∧ _ ∧ _ ∧ AllLt _ tups›
  exact List.forall_mem_cons.mpr ⟨Nat.ne_of_lt a1, List.forall_mem_cons.mpr ⟨Nat.ne_of_lt a2, List.forall_mem_cons.mpr ⟨Nat.ne_of_lt a3, ne_of_allLt a4⟩⟩⟩
theorem hd_setU {x d hl : Addr} {t : Tok} {vs : List Value} {k : Nat} {ps : List (Str × Str)} {tups : List (Addr × Obj)} {name val : Str} {tn tv : Tok}
  (B : Below A₀ base outer h₀) (F : Fr h₀ L s.heap m) (X : (Mine.hdm.heap_1 w.params).In h₀) (N : News h₀ L s.heap news) (T₀ : Top p loose mean mg mb h₀) (hk : cs.kind = .function) (hd : dp + 15 < recursionLimit)
  (m1 : (x, instObj 290 d) ∈ news) (m2 : (d, hdDict w.params t hl) ∈ news) (m3 : (hl, W.listOf vs.toArray k) ∈ news) (m4 : ∀ q ∈ tups, q ∈ news)
  (hlt : @LT.lt Nat _ d x ∧ @LT.lt Nat _ x hl) (hz : ps.length ≤ 900) (hp : PairsIn tups vs ps) (hpn : ∀ q ∈ ps, q.1.length ≤ 100) (hto : ∀ q ∈ tups, q.1 ≠ hl)
  (hok : ∀ c ∈ (Txt.lower name).cps.toList, okN c = true) (hnl : name.length ≤ 100) (hok1 : ∀ c ∈ name.cps.toList, okN c = true) (hok2 : ∀ c ∈ val.cps.toList, okV c = true) (hvl : val.length ≤ 1000)
  (ret : ∀ h' tk' vs' k' tp, PairsIn ((tp, tup2 (.str name tn) (.str val tv)) :: tups) vs' ((ps.filter fun q => Txt.lower q.1 != Txt.lower name) ++ [(name, val)]) → (∀ p ∈ news, p.1 ≠ tp) → ∃ news', UpdS [(hl, W.listOf vs'.toArray k')] news news' ∧ (Fr h₀ L h' m → News h₀ L h' ((tp, tup2 (.str name tn) (.str val tv)) :: news') → Q .none {s with heap := h', toks := tk'})) :
  wpAny (model PySem.Challenge.pw_pg0318_02 w) (ktrTop dp un gd cn cs L a ccd cl outer) (call (.ref 205) [.ref x, .str name tn, .str val tv]) Q E s :=
  hd_set B F X N T₀ hk hd hlt hz hp hpn hto (sub_cons m1 (sub_cons m2 (sub_cons m3 m4))) hok hnl hok1 hok2 hvl fun h' tk' vs' k' tp F' K' N' hne P' =>
    let ⟨_, u, r⟩ := ret h' tk' vs' k' tp P' hne
    r F' (List.forall_mem_cons.mpr ⟨N' _ (.tail _ (.head _)), News.updS u N K' (News.sub N' (sub_cons (.head _) sub_nil))⟩)
end
end Mine

theorem Mine.tt_p_hdg : True := by w_top off; exact trivial
namespace Mine
-- HEADERS: get, setdefault
local macro_rules | `(tactic| walk_at "call ref") => Mine.ln `Mine.conv_name 9 0 false "AaBaCaDaEaFkHsIOGr" none 0 0 "Iabcd D F"
local macro_rules | `(tactic| walk_at "exec For Tuple Attribute cons nil") => `(tactic| walk_at "forJ")
def GetAns (ps : List (Str × Str)) (name : Str) (r : Value) : Prop :=
  (∃ q t, ps.find? (fun q => Txt.lower q.1 == Txt.lower name) = some q ∧ r = .str q.2 t) ∨ (ps.find? (fun q => Txt.lower q.1 == Txt.lower name) = none ∧ r = .none)
theorem GetAns.hit {ps : List (Str × Str)} {name : Str} {i : Nat} {q : Str × Str} {t : Tok} (h : ∀ q ∈ ps.take i, (Txt.lower q.1 == Txt.lower name) = false) (hq : ps[i]? = some q) (e : (Txt.lower q.1 == Txt.lower name) = true) : GetAns ps name (.str q.2 t) := by
  refine .inl ⟨q, t, ?_, rfl⟩
  have hs : ps = ps.take i ++ q :: ps.drop (i + 1) := by
    obtain ⟨hi, e2⟩ := List.getElem?_eq_some_iff.mp hq
    rw [← e2, ← List.drop_eq_getElem_cons hi, List.take_append_drop]
  rw [hs, List.find?_append, List.find?_eq_none.mpr (fun q hq => by rw [h q hq]; decide), List.find?_cons, e]; rfl
theorem GetAns.miss {ps : List (Str × Str)} {name : Str} (h : ∀ q ∈ ps, (Txt.lower q.1 == Txt.lower name) = false) : GetAns ps name .none :=
  .inr ⟨List.find?_eq_none.mpr (fun q hq => by rw [h q hq]; decide), rfl⟩
section
variable {w : World} {dp un : Nat} {gd : Option (List Code)} {cn : Str} {cs : Scope} {a : Addr} {ccd : Value} {cl : List (Str × Addr)} {outer : List Env} {A₀ : Around} {base h₀ : Heap} {L : Addr} {m mg mb : Str → Option Value} {p : Program} {loose : List Str} {mean : ExcName → Option Value} {s : Shared} {Q E : Value → Shared → Prop} {news : List (Addr × Obj)}
abbrev ggMap (vv vk : Option Value) (low : Str) (tl : Tok) (x : Addr) : Str → Option Value :=
  mput "v" vv (mput "k" vk (mput "default" (some .none) (mput "name" (some (.str low tl)) (mput "self" (some (.ref x)) mnil))))
inductive GetJ (w : World) (ps : List (Str × Str)) (tups : List (Addr × Obj)) (low : Str) (x d hl : Addr) (t : Tok) (i : Nat) (m₁ : Str → Option Value) (nx : List (Addr × Obj)) : Prop where
  | mk vv vk tl (h0 : m₁ = ggMap vv vk low tl x) (h1 : nx = (x, instObj 290 d) :: (d, hdDict w.params t hl) :: tups) (h2 : ∀ q ∈ ps.take i, (Txt.lower q.1 == low) = false) : GetJ w ps tups low x d hl t i m₁ nx
theorem hd_get {x d hl : Addr} {t : Tok} {vs : List Value} {k : Nat} {ps : List (Str × Str)} {tups : List (Addr × Obj)} {name : Str} {tn : Tok}
  (B : Below A₀ base outer h₀) (F : Fr h₀ L s.heap m) (X : (Mine.hdm.heap_1 w.params).In h₀) (N : News h₀ L s.heap news) (T₀ : Top p loose mean mg mb h₀) (hk : cs.kind = .function) (hd : dp + 10 < recursionLimit)
  (hlt : @LT.lt Nat _ d x ∧ @LT.lt Nat _ x hl) (hz : ps.length ≤ 1000) (hp : PairsIn tups vs ps) (hpn : ∀ q ∈ ps, q.1.length ≤ 100) (hto : ∀ q ∈ tups, q.1 ≠ hl)
  (hsub : ∀ q ∈ (x, instObj 290 d) :: (d, hdDict w.params t hl) :: (hl, W.listOf vs.toArray k) :: tups, q ∈ news)
  (hok : ∀ c ∈ (Txt.lower name).cps.toList, okN c = true) (hnl : name.length ≤ 100)
  (ret : ∀ h' tk' r, GetAns ps name r → Fr h₀ L h' m → News h₀ L h' news → Q r {s with heap := h', toks := tk'}) :
  wpAny (model PySem.Challenge.pw_pg0318_02 w) (ktrTop dp un gd cn cs L a ccd cl outer) (call (.ref 237) [.ref x, .str name tn]) Q E s := by
  refine wpAny_call ?_
  have N₁ := News.sub N hsub
  ktr_enter
  intro g L' h₂ hgs hgk hgn F₂ N₂ B₂ X₂ T₂
  clear hgs hgn B N₁
  change Fr g L' h₂ (mput "default" (some .none) (mput "name" (some (.str name tn)) (mput "self" (some (.ref x)) mnil))) at F₂
  try dsimp only
  show wpAny _ _ _ _ _ _
  k_fold
  try (refine Mine.set_walk ?_; intro A₉ e₉)
  k_steps
  rename Fr _ _ _ _ => Fn
  rename News _ _ _ _ => Nn
  refine' Mine.list_J (GetJ w ps tups (Txt.lower name) x d hl t) ?hh Fn (News.sub Nn (news' := (hl, W.listOf vs.toArray k) :: (x, instObj 290 d) :: (d, hdDict w.params t hl) :: tups) (sub_cons (.tail _ (.tail _ (.head _))) (sub_cons (.head _) (sub_cons (.tail _ (.head _)) fun q hq => .tail _ (.tail _ (.tail _ hq)))))) ?hlo ?hj ?turn ?done
  case hh => rfl
  case hlo => exact List.forall_mem_cons.mpr ⟨Nat.ne_of_lt hlt.2, List.forall_mem_cons.mpr ⟨Nat.ne_of_lt (Nat.lt_trans hlt.1 hlt.2), hto⟩⟩
  case hj => exact ⟨none, none, _, mext ["v", "k", "default", "name", "self"] ⟨rfl, rfl, rfl, rfl, rfl, trivial⟩ (by intro y hy; simp only [Off] at hy; simp [ggMap, mput, mnil, hy]), rfl, fun q hq => by simp at hq⟩
  case turn =>
    rintro i v m₁ nx h tk own' hv hfx hoff ⟨vv, vk, tl, rfl, rfl, hno⟩ F₄ N₄
    simp only [List.cons_append] at N₄
    clear Fn Nn
    have hv2 : vs[i]? = some v := by simpa using hv
    obtain ⟨t9, n9, u9, tn9, tu9, rfl, hps, hmt⟩ := hp.get hv2
    have hn9 := hpn _ (List.mem_of_getElem? hps)
    have hm9 : (t9, tup2 (.str n9 tn9) (.str u9 tu9)) ∈ tups ++ own' := List.mem_append_left _ hmt
    k_steps
    · rename Fr _ _ _ _ => Fz
      rename News _ _ _ _ => Nz
      obtain ⟨F', N'⟩ := leave_ro F N hsub hgk Fz Nz (sub_cons (.head _) (sub_cons (.tail _ (.head _)) (sub_cons (.tail _ (.tail _ (List.mem_append_right _ hfx))) fun q hq => .tail _ (.tail _ (List.mem_append_left _ hq)))))
      exact ret _ _ _ (GetAns.hit hno hps (by assumption)) F' N'
    · rename Fr _ _ _ _ => Fz
      rename News _ _ _ _ => Nz
      refine JEnd.intro ((x, instObj 290 d) :: (d, hdDict w.params t hl) :: tups) Fz Nz ?_ ?_ ?_ ⟨_, _, _, mext ["v", "k", "default", "name", "self"] ⟨rfl, rfl, rfl, rfl, rfl, trivial⟩ (by intro y hy; simp only [Off] at hy; simp [ggMap, mput, mnil, hy]), rfl, ?_⟩
      · exact sub_cons (.head _) (sub_cons (.tail _ (.head _)) fun q hq => .tail _ (.tail _ (List.mem_append_left _ hq)))
      · exact fun q hq => .tail _ (.tail _ (List.mem_append_right _ hq))
      · exact hoff
      · intro q hq
        rw [take_snoc hps] at hq
        rcases List.mem_append.mp hq with hq | hq
        · exact hno q hq
        · rw [List.mem_singleton.mp hq]; assumption
  case done =>
    rintro m₁ nx h tk ⟨vv, vk, tl, rfl, rfl, hno⟩ F₄ N₄
    rw [List.size_toArray, hp.length, List.take_length] at hno
    clear Fn Nn
    k_steps
    rename Fr _ _ _ _ => Fz
    rename News _ _ _ _ => Nz
    obtain ⟨F', N'⟩ := leave_ro F N hsub hgk Fz Nz (sub_cons (by k_mem) (sub_cons (by k_mem) (sub_cons (by k_mem) fun q hq => .tail _ (.tail _ (.tail _ hq)))))
    exact ret _ _ _ (GetAns.miss hno) F' N'
end
end Mine

theorem Mine.tt_p_hda2 : True := by w_top off; exact trivial
namespace Mine
-- HEADERS: add_header, no parameter
local macro_rules | `(tactic| walk_at "call ref") => Mine.ln `Mine.conv_name 9 0 false "AaBaCaDaEaFkHsIOGr" none 0 0 "Iabcd D F"
local macro_rules | `(tactic| walk_at "call ref") => Mine.ln `Mine.conv_value 9 0 false "AaBaCaDaEaFkHsIOGr" none 0 0 "Iabcd D F"
local macro_rules | `(tactic| walk_at "exec For Tuple Call cons nil") => `(tactic| (k_here; ktd_dictName; (try ktd_lit); kti_methFor))
section
variable {w : World} {dp un : Nat} {gd : Option (List Code)} {cn : Str} {cs : Scope} {a : Addr} {ccd : Value} {cl : List (Str × Addr)} {outer : List Env} {A₀ : Around} {base h₀ : Heap} {L : Addr} {m mg mb : Str → Option Value} {p : Program} {loose : List Str} {mean : ExcName → Option Value} {s : Shared} {Q E : Value → Shared → Prop} {news : List (Addr × Obj)}
theorem hd_add {R : Result → Shared → Prop} {x d hl : Addr} {t : Tok} {vs : List Value} {k : Nat} {ps : List (Str × Str)} {tups : List (Addr × Obj)} {name val : Str} {tn tv : Tok}
  (B : Below A₀ base outer h₀) (F : Fr h₀ L s.heap m) (X : (Mine.hdm.heap_1 w.params).In h₀) (N : News h₀ L s.heap news) (T₀ : Top p loose mean mg mb h₀) (hk : cs.kind = .function) (hd : dp + 20 < recursionLimit)
  (hlt : @LT.lt Nat _ d x ∧ @LT.lt Nat _ x hl) (hz : ps.length ≤ 900) (hp : PairsIn tups vs ps) (hto : ∀ q ∈ tups, q.1 ≠ hl)
  (hsub : ∀ q ∈ (x, instObj 290 d) :: (d, hdDict w.params t hl) :: (hl, W.listOf vs.toArray k) :: tups, q ∈ news)
  (hnl : name.length ≤ 100) (hok1 : ∀ c ∈ name.cps.toList, okN c = true) (hok2 : ∀ c ∈ val.cps.toList, okV c = true) (hvl : val.length ≤ 100)
  (ret : ∀ h' tk' vs' k' tp t', PairsIn ((tp, tup2 (.str name tn) (.str val t')) :: tups) vs' (ps ++ [(name, val)]) → (∀ q ∈ news, q.1 ≠ tp) → ∃ news', UpdS [(hl, W.listOf vs'.toArray k')] news news' ∧ (Fr h₀ L h' m → News h₀ L h' ((tp, tup2 (.str name tn) (.str val t')) :: news') → R (.ok (.ret .none)) {s with heap := h', toks := tk'})) :
  codeAny (model PySem.Challenge.pw_pg0318_02 w) (ktrTop dp un gd cn cs L a ccd cl outer) (.call (.ref 287) ⟨[.ref x, .str name tn, .str val tv], []⟩) R s := by
  refine' Mine.enter_kw (ex := []) (front := [("self", .ref x), ("_name", .str name tn), ("_value", .str val tv)]) (nm := "_params") (known := [(x, instObj 290 d), (d, hdDict w.params t hl), (hl, W.listOf vs.toArray k)]) B F X N T₀ (fun q hq => hsub q (by simp only [List.mem_cons, List.not_mem_nil, or_false] at hq ⊢; rcases hq with h | h | h <;> simp [h])) ?kA ?kF ?kK ?k6 ?k7 ?k8 ?kN ?kP ?kT ?kB ?_ ?c2 ?c3 ?c4 ?c5
  case kA => exact rfl
  case kF => exact rfl
  case kK => assumption
  case k6 => k_is
  case k7 => k_is
  case k8 => ktr_room
  case kP => exact rfl
  case kT => exact fun _ => rfl
  case kN => exact List.nodup_nil
  case kB => exact fun _ => locs rfl
  case c2 => exact rfl
  case c3 => exact rfl
  case c4 => exact rfl
  case c5 => decide +kernel
  intro D g L' h₁ h₂ tk l1 lo9 F₁ N₁ hgk F₂ N₂ B₂ X₂ T₂ htk
  clear B
  have hvl9 := hp.length
  have hD9 : @LT.lt Nat _ x D ∧ @LT.lt Nat _ d D ∧ @LT.lt Nat _ hl D := ⟨l1 _ (hsub _ (.head _)), l1 _ (hsub _ (.tail _ (.head _))), l1 _ (hsub _ (.tail _ (.tail _ (.head _))))⟩
  have fl9 : PyProof.V.FlatPairs PyData.str ([] : List (Str × Value)) [] := by kp_flats
  obtain ⟨oD, hoD⟩ : ∃ o, o = dictOf (kwEs w.params s.toks []) ([] : List (Str × Value)).length := ⟨_, rfl⟩
  have io9 : oD.IsDictOf (strKind (PySem.Challenge.pw_pg0318_02) w) ([] : List (Str × Value)) := by rw [hoD]; exact kp_isDict _ _ List.nodup_nil
  rw [← hoD] at N₁ hgk N₂
  try dsimp only
  show wpAny _ _ _ _ _ _
  k_fold
  try (refine Mine.set_walk ?_; intro A₉ e₉)
  k_steps
  rename Fr _ _ _ _ => Fz
  rename News _ _ _ _ => Nz
  simp only [List.push_toArray, List.nil_append, Nat.zero_add] at Nz
  rw [show Txt.join (Str.ofString "; ") [val] = val from rfl] at Nz
  obtain ⟨F', K', N'⟩ := leave_S [hl] F₁ N₁ (known := [(D, oD), (x, instObj 290 d), (d, hdDict w.params t hl), (hl, W.listOf vs.toArray k)]) (sub_cons (.head _) fun q hq => .tail _ (hsub q (by simp only [List.mem_cons, List.not_mem_nil, or_false] at hq ⊢; rcases hq with h | h | h <;> simp [h]))) hgk Fz Nz
    (List.forall_mem_cons.mpr ⟨.inl (by k_mem), List.forall_mem_cons.mpr ⟨.inl (by k_mem), List.forall_mem_cons.mpr ⟨.inl (by k_mem), List.forall_mem_cons.mpr ⟨.inr (.head _), List.forall_mem_nil _⟩⟩⟩⟩)
  obtain ⟨_, a2, a3, a4, a5⟩ := ‹@LT.lt Nat _ _ _ ∧ @LT.lt Nat _ D _ ∧ @LT.lt Nat _ x _ ∧ @LT.lt Nat _ d _ ∧ @LT.lt Nat _ hl _›
  have hfr := fresh_ne N₁ hgk Nz (.head _) (List.forall_mem_cons.mpr ⟨Nat.ne_of_lt a2, List.forall_mem_cons.mpr ⟨Nat.ne_of_lt a3, List.forall_mem_cons.mpr ⟨Nat.ne_of_lt a4, List.forall_mem_cons.mpr ⟨Nat.ne_of_lt a5, List.forall_mem_nil _⟩⟩⟩⟩)
  obtain ⟨_, u, r⟩ := ret _ _ _ _ _ _ (PairsIn.snoc (PairsIn.mono hp fun q hq => .tail _ hq) (.head _)) (fun q hq => hfr q (.tail _ hq))
  exact r F' (List.forall_mem_cons.mpr ⟨N' _ (.head _), News.updS u (News.sub N₁ fun q hq => .tail _ hq) K' (News.sub N' (sub_cons (.tail _ (.tail _ (.tail _ (.tail _ (.tail _ (.head _)))))) sub_nil))⟩)
end
end Mine

theorem Mine.tt_p_hdga : True := by w_top off; exact trivial
namespace Mine
local macro_rules | `(tactic| walk_at "zz") => `(tactic| fail)
-- HEADERS: get_all
local macro_rules | `(tactic| walk_at "call ref") => Mine.ln `Mine.conv_name 9 0 false "AaBaCaDaEaFkHsIOGr" none 0 0 "Iabcd D F"
local macro_rules | `(tactic| walk_at "CompSrcT") => `(tactic| (k_dflt (refine' Mine.src_stop ?_)))
local macro_rules | `(tactic| walk_at "eval ListComp") => `(tactic| (k_here; k_dflt (refine LCt.ListComp_T (F₀ := by k_asm) (by with_unfolding_all rfl) (by decide) (by rfl) (by decide) (by rfl) ?_)))
section
variable {w : World} {dp un : Nat} {gd : Option (List Code)} {cn : Str} {cs : Scope} {a : Addr} {ccd : Value} {cl : List (Str × Addr)} {outer : List Env} {A₀ : Around} {base h₀ : Heap} {L : Addr} {m mg mb : Str → Option Value} {p : Program} {loose : List Str} {mean : ExcName → Option Value} {s : Shared} {Q E : Value → Shared → Prop} {news : List (Addr × Obj)}
theorem hd_getall {x d hl : Addr} {t : Tok} {vs : List Value} {k : Nat} {ps : List (Str × Str)} {tups : List (Addr × Obj)} {name : Str} {tn : Tok}
  (B : Below A₀ base outer h₀) (F : Fr h₀ L s.heap m) (X : (Mine.hdm.heap_1 w.params).In h₀) (N : News h₀ L s.heap news) (T₀ : Top p loose mean mg mb h₀) (hk : cs.kind = .function) (hd : dp + 10 < recursionLimit)
  (hlt : @LT.lt Nat _ d x ∧ @LT.lt Nat _ x hl) (hz : ps.length ≤ 1000) (hp : PairsIn tups vs ps) (hpn : ∀ q ∈ ps, q.1.length ≤ 100) (hto : ∀ q ∈ tups, q.1 ≠ hl)
  (hsub : ∀ q ∈ (x, instObj 290 d) :: (d, hdDict w.params t hl) :: (hl, W.listOf vs.toArray k) :: tups, q ∈ news)
  (hok : ∀ c ∈ (Txt.lower name).cps.toList, okN c = true) (hnl : name.length ≤ 100)
  (ret : ∀ D h' tk' ys k', StrsAre ys ((ps.filter fun q => Txt.lower q.1 == Txt.lower name).map (·.2)) → Fr h₀ L h' m → News h₀ L h' ((D, W.listOf ys.toArray k') :: news) → (∀ p ∈ news, p.1 ≠ D) → Q (.ref D) {s with heap := h', toks := tk'}) :
  wpAny (model PySem.Challenge.pw_pg0318_02 w) (ktrTop dp un gd cn cs L a ccd cl outer) (call (.ref 229) [.ref x, .str name tn]) Q E s := by
  refine wpAny_call ?_
  have N₁ := News.sub N hsub
  kc_enter
  intro g L' h₂ tk₂ cells hgs hgk hgn F₂ N₂ Y₂ B₂ X₂ T₂ l1
  clear hgs hgn B N₁
  k_lt l1
  obtain ⟨oc, hE, dc⟩ := CellsAre.one Y₂
  subst hE
  clear Y₂
  change oc.data = .cell (some (.str name tn)) at dc
  simp only [List.cons_append, List.nil_append] at N₂
  have ho : OwnOff tups [L' + 1, hl] := fun q hq r hr => by
    have := allLt_mem tups l1.2.2.2 q hq
    simp only [List.mem_cons, List.not_mem_nil, or_false] at hr
    rcases hr with rfl | rfl
    · exact Nat.ne_of_lt (Nat.lt_succ_of_lt this)
    · exact hto q hq
  change Fr g L' h₂ (mput "self" (some (.ref x)) mnil) at F₂
  try dsimp only
  show wpAny _ _ _ _ _ _
  k_fold
  try (refine Mine.set_walk ?_; intro A₉ e₉)
  k_steps
  rename Fr _ _ _ _ => Fn
  rename News _ _ _ _ => Nn
  unfold Mine.SrcAt
  refine' Mine.srcT_L (fun _ i ys => StrsAre ys (((ps.take i).filter fun q => Txt.lower q.1 == Txt.lower name).map (·.2))) rfl Fn Nn (by k_mem) (by have := hp.length; omega) .nil ?step ?fin
  case step =>
    intro i ys v I oI C oC D m₂ h tk E' hv hJ hC hx F N off ne
    obtain ⟨t9, n9, u9, tn9, tu9, rfl, hps, hmt⟩ := hp.get hv
    have hn9 := hpn _ (List.mem_of_getElem? hps)
    clear Fn Nn
    k_steps
    · refine CmpEnd.intro _ F N sub_self off ⟨rfl, ?_⟩
      rw [take_snoc hps, List.filter_append, List.filter_cons_of_pos (by assumption), List.filter_nil, List.map_append]
      exact hJ.snoc
    · refine CmpEnd.intro _ F N sub_self off ⟨rfl, ?_⟩
      rw [take_snoc hps, List.filter_append, List.filter_cons_of_neg (by simp only [Bool.not_eq_true]; assumption), List.filter_nil, List.append_nil]
      exact hJ
  case fin =>
    intro g9 ys hJ
    rw [hp.length, List.take_length] at hJ
    clear Fn Nn
    k_steps
    rename Fr _ _ _ _ => Fz
    rename News _ _ _ _ => Nz
    obtain ⟨F', N'⟩ := leave_ro F N hsub hgk Fz Nz (sub_cons (by k_mem) (sub_cons (by k_mem) (sub_cons (by k_mem) fun q hq => .tail _ (.tail _ (.tail _ (.tail _ (.tail _ hq)))))))
    obtain ⟨_, N'', _⟩ := leave F (News.sub N hsub) hgk Fz Nz
    exact ret _ _ _ _ _ hJ F' (List.forall_mem_cons.mpr ⟨N'' _ (.head _), N'⟩) (fresh_ne N hgk Nz (.head _) (off1_mem (l := (x, instObj 290 d) :: (d, hdDict w.params t hl) :: (hl, W.listOf vs.toArray k) :: tups) (‹_ ∧ _ ∧ _ ∧ _ ∧ LCg.Off1 _ tups›).2))
end
end Mine

theorem Mine.tt_p_pure2 : True := by w_top off; exact trivial
namespace Mine
-- LAW 02: lists pair by pair; the Whitespace of a way; append
inductive All2 {α β : Type} (R : α → β → Prop) : List α → List β → Prop where
  | nil : All2 R [] []
  | cons {a : α} {b : β} {as : List α} {bs : List β} : R a b → All2 R as bs → All2 R (a :: as) (b :: bs)
theorem All2.mono {α β : Type} {R S : α → β → Prop} {as : List α} {bs : List β} (h : All2 R as bs) (k : ∀ a b, R a b → S a b) : All2 S as bs := by
  induction h with
  | nil => exact .nil
  | cons h1 _ ih => exact .cons (k _ _ h1) ih
theorem All2.length {α β : Type} {R : α → β → Prop} {as : List α} {bs : List β} (h : All2 R as bs) : as.length = bs.length := by
  induction h with
  | nil => rfl
  | cons _ _ ih => rw [List.length_cons, List.length_cons, ih]
theorem All2.snoc {α β : Type} {R : α → β → Prop} {as : List α} {bs : List β} {a : α} {b : β} (h : All2 R as bs) (k : R a b) : All2 R (as ++ [a]) (bs ++ [b]) := by
  induction h with
  | nil => exact .cons k .nil
  | cons h1 _ ih => exact .cons h1 ih
theorem All2.get {α β : Type} {R : α → β → Prop} {as : List α} {bs : List β} (h : All2 R as bs) : ∀ {i : Nat} {b : β}, bs[i]? = some b → ∃ a, as[i]? = some a ∧ R a b := by
  induction h with
  | nil => intro i b h; simp at h
  | cons h1 _ ih =>
    intro i b h
    cases i with
    | zero => simp at h; subst h; exact ⟨_, rfl, h1⟩
    | succ i => exact ih (by simpa using h)
def wsL (l : List Nat) : WsR := wsGo l 0 0 0 []
def Blanks (l : List Nat) : Prop := ∀ x ∈ l, x = 32 ∨ x = 9
section
variable {w : World} {dp un : Nat} {gd : Option (List Code)} {cn : Str} {cs : Scope} {a : Addr} {ccd : Value} {cl : List (Str × Addr)} {outer : List Env} {A₀ : Around} {base h₀ : Heap} {L : Addr} {m mg mb : Str → Option Value} {p : Program} {loose : List Str} {mean : ExcName → Option Value} {s : Shared} {Q E : Value → Shared → Prop} {news : List (Addr × Obj)}
theorem ws_callW {ws : Str} {t : Tok} (B : Below A₀ base outer h₀) (F : Fr h₀ L s.heap m) (X : (Mine.hdm.heap_1 w.params).In h₀) (N : News h₀ L s.heap news) (T : Top p loose mean mg mb h₀) (hk : cs.kind = .function) (hd : dp + 5 < recursionLimit) (hu : un + 50 < cLine)
  (hws : ws.length ≤ 100)
  (ret : ∀ x d D D1 (cvs : List Value) t1 t2 t3 t4 t5 t6 t7 t8 h' tk', Fr h₀ L h' m →
    News h₀ L h' ((D, { cls := .type "tuple", data := .seq #[.ref D1, .int ((wsOf ws).2.1 : Int) t6] }) :: (D1, { cls := .type "tuple", data := .seq cvs.toArray }) :: (x, instObj 142 d) :: (d, dictOf [⟨PyData.keyHash w.params "raw", .str "raw" t1, .str ws t⟩, ⟨PyData.keyHash w.params "n", .str "n" t2, .int ((wsOf ws).1 : Int) t7⟩, ⟨PyData.keyHash w.params "nt", .str "nt" t3, .int ((wsOf ws).2.2.1 : Int) t8⟩, ⟨PyData.keyHash w.params "norm", .str "norm" t4, .ref D⟩, ⟨PyData.keyHash w.params "is_simple", .str "is_simple" t5, .bool (decide (((wsOf ws).2.2.2.length : Int) ≤ 1))⟩] 5) :: news) →
    WsIn w.params ((D, { cls := .type "tuple", data := .seq #[.ref D1, .int ((wsOf ws).2.1 : Int) t6] }) :: (D1, { cls := .type "tuple", data := .seq cvs.toArray }) :: (x, instObj 142 d) :: (d, dictOf [⟨PyData.keyHash w.params "raw", .str "raw" t1, .str ws t⟩, ⟨PyData.keyHash w.params "n", .str "n" t2, .int ((wsOf ws).1 : Int) t7⟩, ⟨PyData.keyHash w.params "nt", .str "nt" t3, .int ((wsOf ws).2.2.1 : Int) t8⟩, ⟨PyData.keyHash w.params "norm", .str "norm" t4, .ref D⟩, ⟨PyData.keyHash w.params "is_simple", .str "is_simple" t5, .bool (decide (((wsOf ws).2.2.2.length : Int) ≤ 1))⟩] 5) :: []) x (wsOf ws) →
    (∀ p ∈ news, p.1 < d) → d < x → x < D1 → D1 < D → Q (.ref x) {s with heap := h', toks := tk'}) :
  wpAny (model PySem.Challenge.pw_pg0318_02 w) (ktrTop dp un gd cn cs L a ccd cl outer) (call (.ref 142) [.str ws t]) Q E s :=
  ws_call B F X N T hk hd hu hws fun x d D D1 cvs t1 t2 t3 t4 t5 t6 t7 t8 h' tk' F' N' hi l1 l2 l3 l4 =>
    ret x d D D1 cvs t1 t2 t3 t4 t5 t6 t7 t8 h' tk' F' N' ⟨ws, d, D, D1, cvs, t, t1, t2, t3, t4, t5, t6, t7, t8, .tail _ (.tail _ (.head _)), .tail _ (.tail _ (.tail _ (.head _))), .head _, .tail _ (.head _), hi⟩ l1 l2 l3 l4
end
theorem wsGo_stop {c : Nat} (h1 : c ≠ 32) (h2 : c ≠ 9) (r : List Nat) : ∀ (l : List Nat) (n b nt : Nat) (cns : List Int), (∀ x ∈ l, x = 32 ∨ x = 9) → wsGo (l ++ c :: r) n b nt cns = wsGo l n b nt cns
  | [], n, b, nt, cns, _ => by rw [List.nil_append, wsGo, wsGo, if_neg h1, if_neg h2]
  | x :: l, n, b, nt, cns, h => by
    have hl : ∀ y ∈ l, y = 32 ∨ y = 9 := fun y hy => h y (.tail _ hy)
    rw [List.cons_append, wsGo, wsGo, wsGo_stop h1 h2 r l _ _ _ _ hl, wsGo_stop h1 h2 r l _ _ _ _ hl]
theorem wsGo_n : ∀ (l : List Nat) (n b nt : Nat) (cns : List Int), (∀ x ∈ l, x = 32 ∨ x = 9) → (wsGo l n b nt cns).1 = n + l.length
  | [], _, _, _, _, _ => rfl
  | x :: l, n, b, nt, cns, h => by
    have hl : ∀ y ∈ l, y = 32 ∨ y = 9 := fun y hy => h y (.tail _ hy)
    rw [wsGo]
    rcases h x (.head _) with rfl | rfl
    · rw [if_pos rfl, wsGo_n l _ _ _ _ hl, List.length_cons]; omega
    · rw [if_neg (by decide), if_pos rfl, wsGo_n l _ _ _ _ hl, List.length_cons]; omega
theorem wsGo_b : ∀ (l : List Nat) (n b nt : Nat) (cns : List Int), (wsGo l n b nt cns).2.1 ≤ b + l.length
  | [], _, _, _, _ => Nat.le_refl _
  | x :: l, n, b, nt, cns => by
    rw [wsGo, List.length_cons]
    split
    · have := wsGo_b l (n + 1) (b + 1) nt cns; omega
    · split
      · have := wsGo_b l (n + 1) 0 (nt + 1) (wsBump cns b); omega
      · exact Nat.le_add_right ..
theorem wsGo_c : ∀ (l : List Nat) (n b nt : Nat) (cns : List Int), (wsGo l n b nt cns).2.2.2.length ≤ max cns.length (b + l.length)
  | [], _, _, _, _ => by rw [wsGo]; exact Nat.le_max_left ..
  | x :: l, n, b, nt, cns => by
    rw [wsGo, List.length_cons]
    split
    · have := wsGo_c l (n + 1) (b + 1) nt cns; omega
    · split
      · have := wsGo_c l (n + 1) 0 (nt + 1) (wsBump cns b)
        have := wsBump_length (cns := cns) (b := b)
        omega
      · exact Nat.le_max_left ..
theorem wsL_n {l : List Nat} (h : Blanks l) : (wsL l).1 = l.length := by rw [wsL, wsGo_n l _ _ _ _ h, Nat.zero_add]
theorem wsL_ok {l : List Nat} (hz : l.length ≤ 100) : (wsL l).2.2.2.length ≤ 101 ∧ (wsL l).2.1 ≤ 101 := by
  have h1 := wsGo_c l 0 0 0 []
  have h2 := wsGo_b l 0 0 0 []
  unfold wsL
  rw [List.length_nil] at h1
  constructor <;> omega
theorem wsOf_way {l r : List Nat} {c : Nat} (h : Blanks l) (h1 : c ≠ 32) (h2 : c ≠ 9) : wsOf (stOf (l ++ c :: r)) = wsL l := wsGo_stop h1 h2 r l 0 0 0 [] h
section
variable {prog : Program} {w : World} {A : Around} {E : Value → Shared → Prop} {s : Shared} {h₀ : Heap} {L : Addr} {m : Str → Option Value} {news : List (Addr × Obj)}
theorem append_L {l : Addr} {vs : List Value} {k : Nat} {x : Value} {Q : Value → Shared → Prop} (F : Fr h₀ L s.heap m) (N : News h₀ L s.heap news) (hm : (l, W.listOf vs.toArray k) ∈ news) (hz : vs.length ≤ 100000)
    (h : ∀ h', ∃ news', UpdS [(l, W.listOf (vs ++ [x]).toArray (k + 1))] news news' ∧ (Fr h₀ L h' m → News h₀ L h' news' → Q .none {s with heap := h'})) : wpAny (model prog w) A (call (.builtin "list.append") [.ref l, x]) Q E s := by
  have z := N _ hm
  refine append_at z.1 (fun h' hs ho => ?_) (by rw [List.size_toArray, sizeLine_eq]; omega)
  obtain ⟨news', u, q⟩ := h h'
  refine q (Fr.change F hs z.2.1 z.2.2) (News.updS u N (fun b o e n => hs.extBut b o (fun q => n (by rw [q]; exact .head _)) e) fun p hp => ?_)
  rw [List.mem_singleton.mp hp, ← List.push_toArray]
  exact ⟨ho, z.2⟩
end
theorem sl_from (l r : List Nat) {n : Nat} (hn : n = l.length) : Txt.slice (stOf (l ++ r)) (some (n : Int)) none = stOf r := by
  subst hn
  have hlen : (stOf (l ++ r)).length = l.length + r.length := by rw [st_len, List.length_append]
  rw [slice_from_eq (by omega) (by rw [hlen]; omega) rfl, hlen]
  show (⟨(((l ++ r).drop ((l.length : Int)).toNat).take _).toArray⟩ : Str) = ⟨r.toArray⟩
  rw [Int.toNat_natCast, List.drop_left, show ((((l.length + r.length : Nat) : Int) - (l.length : Int)).toNat) = r.length by omega, List.take_length]
theorem sl_to (l r : List Nat) {n : Nat} (hn : n = l.length) : Txt.slice (stOf (l ++ r)) none (some (n : Int)) = stOf l := by
  subst hn
  have hlen : (stOf (l ++ r)).length = l.length + r.length := by rw [st_len, List.length_append]
  rw [beq_iff_eq.mp (slice_closes_toL (x := stOf (l ++ r)) (j := (l.length : Int)) (by omega) (by rw [hlen]; omega))]
  show (⟨(((l ++ r).drop 0).take ((l.length : Int) - 0).toNat).toArray⟩ : Str) = ⟨l.toArray⟩
  rw [List.drop_zero, show (((l.length : Int) - 0).toNat) = l.length by omega, List.take_left]
end Mine

theorem Mine.tt_p_roads2 : True := by w_top off; exact trivial
namespace Mine
-- U-WHOLE
-- LAW 02: _law_roads
abbrev Road := Nat × Nat × List Nat × Nat
def rdB (x : Nat) : Nat := if x / 192 % 2 = 1 then 65 + x % 4 else 97 + x % 4
def rdE (x : Nat) : Nat := if x / 384 = 1 then 65 + x / 4 % 4 else 97 + x / 4 % 4
def pieceAt (i : Nat) : List Nat := [[9], [32], [32, 32], [32, 9], [9, 32], []].getD i []
def roadOf (x : Nat) : Road := (rdB x, rdE x, pieceAt (x / 16 % 6), x / 96 % 2)
def roadN (n : Int) : Road := roadOf (n % 768).toNat
def lawRoads (sc : List Int) : List Road := (100 :: 408 :: 214 :: 13 :: sc.take 4).map roadN
abbrev tup4 (a b c d : Value) : Obj := { cls := .type "tuple", data := .seq #[a, b, c, d] }
inductive RoE (led : List (Addr × Obj)) (v : Value) (r : Road) : Prop where
  | mk t ta tb tc td (h0 : v = .ref t) (h1 : (t, tup4 (.str (stOf [r.1]) ta) (.str (stOf [r.2.1]) tb) (.str (stOf r.2.2.1) tc) (.int (r.2.2.2 : Int) td)) ∈ led) : RoE led v r
theorem RoE.mono {led led' : List (Addr × Obj)} (k : ∀ p ∈ led, p ∈ led') (v : Value) (r : Road) (h : RoE led v r) : RoE led' v r := by
  obtain ⟨t, ta, tb, tc, td, e, h1⟩ := h
  exact ⟨t, ta, tb, tc, td, e, k _ h1⟩
theorem fdN (a b : Nat) : ((a:Int).fdiv (b:Int)) = ((a/b : Nat):Int) := by rw [Int.fdiv_eq_ediv_of_nonneg _ (Int.natCast_nonneg _)]; rfl
theorem fmN (a b : Nat) : ((a:Int).fmod (b:Int)) = ((a%b : Nat):Int) := by rw [Int.fmod_eq_emod_of_nonneg _ (Int.natCast_nonneg _)]; rfl
abbrev roMap (vp ve vb vx vn : Option Value) (rl sc : Addr) : Str → Option Value :=
  mput "piece" vp (mput "end" ve (mput "begin" vb (mput "x" vx (mput "number" vn (mput "roads" (some (.ref rl)) (mput "script" (some (.ref sc)) mnil))))))
inductive RoJ (sc : Addr) (nums : List Int) (i : Nat) (m₁ : Str → Option Value) (nx : List (Addr × Obj)) : Prop where
  | mk vp ve vb vx vn rl rvs k tl_ (h0 : m₁ = roMap vp ve vb vx vn rl sc) (h1 : nx = (rl, W.listOf rvs.toArray k) :: tl_) (h2 : All2 (RoE tl_) rvs ((nums.take i).map roadN)) (h3 : OwnOff tl_ [rl]) : RoJ sc nums i m₁ nx
inductive RoCut (g : Heap) (L : Addr) (mm : Option Value → Str → Option Value) (c : Nat) (led : List (Addr × Obj)) (s : Shared) (f : Flow) (s' : Shared) : Prop where
  | mk h' tk' tok (e0 : f = .next) (e1 : s' = {s with heap := h', toks := tk'}) (F : Fr g L h' (mm (some (.str (stOf [c]) tok)))) (N : News g L h' led) : RoCut g L mm c led s f s'
theorem abcd_dec : ((List.range 4).all fun i => Txt.item (Str.ofString "abcd") (i : Int) == stOf [97 + i]) = true := by decide +kernel
theorem abcd_item {i : Nat} (h : i < 4) : Txt.item (Str.ofString "abcd") (i : Int) = stOf [97 + i] := beq_iff_eq.mp (List.all_eq_true.mp abcd_dec i (List.mem_range.mpr h))
theorem up_dec : ((List.range 4).all fun i => Txt.upper (stOf [97 + i]) == stOf [65 + i]) = true := by decide +kernel
theorem up_item {i : Nat} (h : i < 4) : Txt.upper (stOf [97 + i]) = stOf [65 + i] := beq_iff_eq.mp (List.all_eq_true.mp up_dec i (List.mem_range.mpr h))
theorem piece_get {t0 t1 t2 t3 t4 t5 : Tok} {i : Nat} (h : i < 6) : ∃ t, ([.str "\t" t0, .str " " t1, .str "  " t2, .str " \t" t3, .str "\t " t4, .str "" t5] : List Value)[i]? = some (.str (stOf (pieceAt i)) t) := by
  have e : (Str.ofString "\t" = stOf [9] ∧ Str.ofString " " = stOf [32] ∧ Str.ofString "  " = stOf [32, 32]) ∧ Str.ofString " \t" = stOf [32, 9] ∧ Str.ofString "\t " = stOf [9, 32] ∧ Str.ofString "" = stOf [] := by decide +kernel
  obtain ⟨⟨e0, e1, e2⟩, e3, e4, e5⟩ := e
  rw [e0, e1, e2, e3, e4, e5]
  match i, h with
  | 0, _ => exact ⟨_, rfl⟩
  | 1, _ => exact ⟨_, rfl⟩
  | 2, _ => exact ⟨_, rfl⟩
  | 3, _ => exact ⟨_, rfl⟩
  | 4, _ => exact ⟨_, rfl⟩
  | 5, _ => exact ⟨_, rfl⟩
local macro_rules | `(tactic| walk_at "call builtin:str.upper") => `(tactic| (k_here; k_dflt (refine KXw.upper (Mine.up_item (Nat.mod_lt _ (by decide))) (by rw [Mine.up_item (Nat.mod_lt _ (by decide))]; rfl) ?_); intro _ _))
def SubAt (P : Prop) : Prop := P
theorem sub_stop {P : Prop} (h : SubAt P) : P := h
local macro_rules | `(tactic| walk_at "subscriptTail List cons BinOp ref int") => Mine.ln `Mine.sub_stop 0 0 false "" none 0 0 ""
local macro_rules | `(tactic| walk_at "exec If") => Mine.ln `Mine.if_stop 0 0 false "" none 0 0 ""
local macro_rules | `(tactic| walk_at "exec For Name BinOp cons nil") => `(tactic| walk_at "forJ")
local macro_rules | `(tactic| walk_at "call builtin:list.append") => do
  let g := (some (← `(term| wpAny _ _ (call (Value.builtin _) [Value.ref _, _]) _ _ _)))
  Mine.ln `Mine.append_L 4 0 false "AaBaCmDo" g 0 9 "Ia U Ibc D W"
section
variable {w : World} {dp un : Nat} {gd : Option (List Code)} {cn : Str} {cs : Scope} {a : Addr} {ccd : Value} {cl : List (Str × Addr)} {outer : List Env} {A₀ : Around} {base h₀ : Heap} {L : Addr} {m mg mb : Str → Option Value} {p : Program} {loose : List Str} {mean : ExcName → Option Value} {s : Shared} {Q E : Value → Shared → Prop} {news : List (Addr × Obj)}
theorem roads_call {sc : Addr} {svs : List Value} {script : List Int} (B : Below A₀ base outer h₀) (F : Fr h₀ L s.heap m) (X : (Mine.hdm.heap_1 w.params).In h₀) (N : News h₀ L s.heap news) (T : Top p loose mean mg mb h₀) (hk : cs.kind = .function) (hd : dp + 5 < recursionLimit) (hu : un + 100 < cLine)
  (hS : h₀.IsList sc svs.toArray) (hI : IntsAre svs script) (hz : script.length ≤ 63)
  (ret : ∀ ld lvs k tl h' tk', Fr h₀ L h' m → News h₀ L h' ((ld, W.listOf lvs.toArray k) :: (news ++ tl)) → All2 (RoE tl) lvs (lawRoads script) → (∀ p ∈ news, ∀ q ∈ (ld, W.listOf lvs.toArray k) :: tl, p.1 ≠ q.1) → OwnOff tl [ld] → Q (.ref ld) {s with heap := h', toks := tk'}) :
  wpAny (model PySem.Challenge.pw_pg0318_02 w) (ktrTop dp un gd cn cs L a ccd cl outer) (call (.ref 301) [.ref sc]) Q E s := by
  refine wpAny_call ?_
  have N₁ : News h₀ L s.heap [] := News.sub N sub_nil
  ktr_enter
  intro g L' h₂ hgs hgk hgn F₂ N₂ B₂ X₂ T₂
  have hS₂ : g.IsList sc svs.toArray := hS.at fun o e => hgk _ _ (F.keep _ _ e) (by simp)
  clear hgs hgn B N₁
  change Fr g L' h₂ (mput "script" (some (.ref sc)) mnil) at F₂
  try dsimp only
  show wpAny _ _ _ _ _ _
  k_fold
  try (refine Mine.set_walk ?_; intro A₉ e₉)
  k_steps
  rename Fr _ _ _ _ => Fn
  rename News _ _ _ _ => Nn
  rename IntsAre _ ([100, 408, 214, 13] ++ _) => hW
  rename_i D' ws' h9 l9
  have Ni := Mine.News.sub Nn (news' := [(D', W.listOf ws'.toArray 0), (_, W.listOf ([] : List Value).toArray 0)]) (sub_cons (by k_mem) (sub_cons (by k_mem) sub_nil))
  refine' Mine.list_J (RoJ sc (100 :: 408 :: 214 :: 13 :: script.take 4)) ?hh Fn Ni ?hlo ?hj ?turn ?done
  case hh => rfl
  case hlo => exact List.forall_mem_cons.mpr ⟨Nat.ne_of_lt l9.2.2, List.forall_mem_nil _⟩
  case hj => exact ⟨none, none, none, none, none, _, [], 0, [], mext ["piece", "end", "begin", "x", "number", "roads", "script"] ⟨rfl, rfl, rfl, rfl, rfl, rfl, rfl, trivial⟩ (by intro y hy; simp only [Off] at hy; simp [roMap, mput, mnil, hy]), rfl, .nil, fun q hq => nomatch hq⟩
  case done =>
    rintro m₁ nx h tk ⟨vp, ve, vb, vx, vn, ld, lvs, kk, tl_, rfl, rfl, hin, hof⟩ F₃ N₃
    have hll : ws'.toArray.size = (100 :: 408 :: 214 :: 13 :: script.take 4).length := by rw [List.size_toArray, hW.length]; rfl
    rw [hll, List.take_length] at hin
    clear Fn Nn Ni
    k_steps
    rename Fr _ _ _ _ => Fz
    rename News _ _ _ _ => Nz
    obtain ⟨F', N', K'⟩ := leave F (News.sub N sub_nil) hgk Fz Nz
    have N0 := News.off N K' fun q hq h => nomatch h
    have hN3 := News.sub Nz (news' := (ld, W.listOf lvs.toArray kk) :: tl_) fun q hq => .tail _ hq
    refine ret ld lvs kk tl_ _ _ F' (List.forall_mem_cons.mpr ⟨N' _ (.tail _ (.head _)), fun q hq => ?_⟩) hin (fun p hp q hq e => ?_) hof
    · rcases List.mem_append.mp hq with hq | hq
      · exact N0 q hq
      · exact N' q (.tail _ (.tail _ hq))
    · have := hgk _ _ (N p hp).1 (by simp)
      rw [e, (hN3 q hq).2.2] at this; cases this
  case turn =>
    rintro i v m₁ nx h tk own hv hmem hoff ⟨vp, ve, vb, vx, vn, ld, lvs, kk, tl_, rfl, rfl, hin, hof⟩ F₃ N₃
    simp only [List.cons_append] at N₃
    clear Fn Nn Ni
    have hv2 : ws'[i]? = some v := by simpa using hv
    have hi9 : i < (100 :: 408 :: 214 :: 13 :: script.take 4).length := by have := (List.getElem?_eq_some_iff.mp hv2).1; rw [hW.length] at this; exact this
    obtain ⟨n, hn⟩ : ∃ n, (100 :: 408 :: 214 :: 13 :: script.take 4)[i]? = some n := ⟨_, List.getElem?_eq_getElem hi9⟩
    obtain ⟨tn, hv3⟩ := hW.get _ _ hn
    obtain rfl : v = .int n tn := Option.some.inj (hv2.symm.trans hv3)
    clear hv hv2 hv3
    obtain ⟨xn, hxn, hx⟩ : ∃ xn : Nat, xn = (n % 768).toNat ∧ n.fmod 768 = (xn : Int) := ⟨_, rfl, by rw [Int.fmod_eq_emod_of_nonneg _ (by decide)]; omega⟩
    have hx768 : xn < 768 := by omega
    k_steps
    rename Fr _ _ _ _ => Fa
    rename News _ _ _ _ => Na
    rw [hx, show ((xn : Int).fdiv 4) = _ from fdN xn 4, show (((xn/4 : Nat) : Int).fmod 4) = _ from fmN _ 4, show ((xn : Int).fmod 4) = _ from fmN _ 4, abcd_item (Nat.mod_lt _ (by decide)), abcd_item (Nat.mod_lt _ (by decide))] at Fa
    obtain ⟨tx, tb, te, Fb⟩ : ∃ tx tb te, Fr g L' _ (roMap vp (some (.str (stOf [97 + xn / 4 % 4]) te)) (some (.str (stOf [97 + xn % 4]) tb)) (some (.int (xn : Int) tx)) (some (.int n tn)) ld sc) := ⟨_, _, _, Mine.Fr.eq Fa (mext ["piece", "end", "begin", "x", "number", "roads", "script"] ⟨rfl, rfl, rfl, rfl, rfl, rfl, rfl, trivial⟩ (by intro y hy; simp only [Off] at hy; simp [roMap, mput, mnil, hy]))⟩
    clear Fa
    refine IfAt.cutS (RoCut g L' (fun v => roMap vp (some (.str (stOf [97 + xn / 4 % 4]) te)) v (some (.int (xn : Int) tx)) (some (.int n tn)) ld sc) (rdB xn) ((ld, W.listOf lvs.toArray kk) :: (tl_ ++ own))) ?c1 ?r1
    case c1 =>
      refine IfAt.go ?_
      k_steps
      · rename Fr _ _ _ _ => Fz
        rename News _ _ _ _ => Nz
        have h9 := ‹((xn : Int).fdiv 192).fmod 2 = 1›
        rw [show (xn : Int).fdiv 192 = _ from fdN xn 192, show (((xn/192 : Nat) : Int).fmod 2) = _ from fmN _ 2] at h9
        exact ⟨_, _, _, rfl, rfl, by rw [rdB, if_pos (by omega)]; exact Fr.eq Fz (mext ["piece", "end", "begin", "x", "number", "roads", "script"] ⟨rfl, rfl, rfl, rfl, rfl, rfl, rfl, trivial⟩ (by intro y hy; simp only [Off] at hy; simp [roMap, mput, mnil, hy])), Nz⟩
      · rename Fr _ _ _ _ => Fz
        rename News _ _ _ _ => Nz
        have h9 : ¬ ((xn : Int).fdiv 192).fmod 2 = 1 := by assumption
        rw [show (xn : Int).fdiv 192 = _ from fdN xn 192, show (((xn/192 : Nat) : Int).fmod 2) = _ from fmN _ 2] at h9
        exact ⟨_, _, _, rfl, rfl, by rw [rdB, if_neg (by omega)]; exact Fz, Nz⟩
    case r1 =>
      clear Fb Na
      rintro f s' ⟨h', tk', tb', rfl, rfl, Fb, Na⟩
      dsimp only at Fb ⊢
      refine wpAny_execs_cons ?_
      k_steps
      refine IfAt.cutS (RoCut g L' (fun v => roMap vp v (some (.str (stOf [rdB xn]) tb')) (some (.int (xn : Int) tx)) (some (.int n tn)) ld sc) (rdE xn) ((ld, W.listOf lvs.toArray kk) :: (tl_ ++ own))) ?c2 ?r2
      case c2 =>
        refine IfAt.go ?_
        k_steps
        · rename Fr _ _ _ _ => Fz
          rename News _ _ _ _ => Nz
          have h9 := ‹(xn : Int).fdiv 384 = 1›
          rw [show (xn : Int).fdiv 384 = _ from fdN xn 384] at h9
          exact ⟨_, _, _, rfl, rfl, by rw [rdE, if_pos (by omega)]; exact Fr.eq Fz (mext ["piece", "end", "begin", "x", "number", "roads", "script"] ⟨rfl, rfl, rfl, rfl, rfl, rfl, rfl, trivial⟩ (by intro y hy; simp only [Off] at hy; simp [roMap, mput, mnil, hy])), Nz⟩
        · rename Fr _ _ _ _ => Fz
          rename News _ _ _ _ => Nz
          have h9 : ¬ (xn : Int).fdiv 384 = 1 := by assumption
          rw [show (xn : Int).fdiv 384 = _ from fdN xn 384] at h9
          exact ⟨_, _, _, rfl, rfl, by rw [rdE, if_neg (by omega)]; exact Fz, Nz⟩
      case r2 =>
        clear Fb Na
        rintro f s' ⟨h', tk', te', rfl, rfl, Fb, Na⟩
        dsimp only at Fb ⊢
        have hlv : lvs.length ≤ 8 := by
          rw [hin.length, List.length_map, List.length_take]; simp only [List.length_cons, List.length_take]; omega
        have hof2 : OwnOff (tl_ ++ own) [ld] := ooA hof (ooN (hoff _ (.head _)) oo0)
        refine wpAny_execs_cons ?_
        k_steps
        unfold Mine.SubAt
        rw [show ((xn : Int).fdiv 16) = _ from fdN xn 16, show (((xn/16 : Nat) : Int).fmod 6) = _ from fmN _ 6]
        refine' Mine.item_L ?k1 ?k2 ?k3 ?k4 ?k5 ?_
        case k1 => k_asm
        case k2 => k_mem
        case k3 => omega
        case k4 => omega
        case k5 => exact (piece_get (Nat.mod_lt _ (by decide))).choose_spec
        k_steps
        rename Fr _ _ _ _ => Fz
        rename News _ _ _ _ => Nz
        have lD := ‹_ ∧ _ ∧ AllLt _ (tl_ ++ own)›
        have l1 := ‹_ ∧ AllLt _ (tl_ ++ own)›
        rw [show ((xn : Int).fdiv 96) = _ from fdN xn 96, show (((xn/96 : Nat) : Int).fmod 2) = _ from fmN _ 2] at Nz
        refine JEnd.intro ((ld, W.listOf (lvs ++ [Value.ref _]).toArray (kk + 1)) :: (_, tup4 (.str (stOf [rdB xn]) tb') (.str (stOf [rdE xn]) te') (.str (stOf (pieceAt (xn / 16 % 6))) _) (.int ((xn / 96 % 2 : Nat) : Int) _)) :: tl_) Fz Nz (sub_cons (.tail _ (.tail _ (.head _))) (sub_cons (.head _) fun q hq => .tail _ (.tail _ (.tail _ (List.mem_append_left _ hq))))) (fun q hq => .tail _ (.tail _ (.tail _ (List.mem_append_right _ hq)))) ?_ ⟨some _, some _, some _, some _, some _, ld, lvs ++ [Value.ref _], kk + 1, _, mext ["piece", "end", "begin", "x", "number", "roads", "script"] ⟨rfl, rfl, rfl, rfl, rfl, rfl, rfl, trivial⟩ (by intro y hy; simp only [Off] at hy; simp [roMap, mput, mnil, hy]), rfl, ?_, ?_⟩
        · exact List.forall_mem_cons.mpr ⟨fun q hq => hoff _ (.head _) q hq, List.forall_mem_cons.mpr ⟨fun q hq => Nat.ne_of_gt (allLt_mem _ lD.2.2 q (List.mem_append_right _ hq)), fun p hp => hoff p (.tail _ hp)⟩⟩
        · rw [take_snoc hn, List.map_append]
          exact (hin.mono (RoE.mono fun q hq => .tail _ hq)).snoc ⟨_, _, _, _, _, rfl, by rw [roadN, ← hxn]; exact .head _⟩
        · exact ooC (List.forall_mem_cons.mpr ⟨Nat.ne_of_gt lD.2.1, List.forall_mem_nil _⟩) hof
end
end Mine

theorem Mine.tt_p_text2 : True := by w_top off; exact trivial
namespace Mine
local macro_rules | `(tactic| walk_at "zz") => `(tactic| fail)
-- LAW 02: _law_text
def wordT (r : Road) : List Nat := if r.2.2.2 = 1 then r.1 :: r.2.1 :: (r.2.2.1.flatMap fun c => [92, c]) ++ [10] else 34 :: r.1 :: r.2.1 :: r.2.2.1 ++ [34]
def textGo : List Road → List Nat
  | [] => []
  | q :: r => wordT q ++ textGo r
theorem bs_len (l : List Nat) : (l.flatMap fun c => [92, c]).length = 2 * l.length := by
  induction l with
  | nil => rfl
  | cons c r ih => rw [List.flatMap_cons, List.length_append, ih, List.length_cons]; simp only [List.length_cons, List.length_nil]; omega
theorem wordT_len {q : Road} (h : q.2.2.1.length ≤ 2) : (wordT q).length ≤ 7 := by
  unfold wordT
  split
  · simp only [List.length_append, List.length_cons, List.length_nil, bs_len]; omega
  · simp only [List.length_append, List.length_cons, List.length_nil]; omega
theorem apS_len (a b : Str) : (a ++ b).length = a.length + b.length := Array.size_append
theorem q_len : (Str.ofString "\"").length = 1 ∧ (Str.ofString "\n").length = 1 ∧ (Str.ofString "\\").length = 1 := by decide +kernel
theorem joinBS (l : List Nat) : Txt.join (Str.ofString "") (l.map fun c => stOf [92, c]) = stOf (l.flatMap fun c => [92, c]) := by
  have h := join_flat (l.map fun c => [92, c])
  rw [List.map_map] at h
  exact h.trans (by rw [List.flatMap_def])
theorem bs_sum (l : List Nat) : ((l.map fun c => stOf [92, c]).map (·.length)).sum + (l.map fun c => stOf [92, c]).length * (Str.ofString "").length = 2 * l.length := by
  have h0 : (Str.ofString "").length = 0 := by decide +kernel
  rw [h0, Nat.mul_zero, Nat.add_zero]
  induction l with
  | nil => rfl
  | cons c r ih => rw [List.map_cons, List.map_cons, List.sum_cons, ih, st_len]; simp only [List.length_cons, List.length_nil]; omega
theorem q_st : Str.ofString "\"" = stOf [34] ∧ Str.ofString "\n" = stOf [10] := by decide +kernel
abbrev txMap (vr vp ve vb : Option Value) (acc : List Nat) (tt : Tok) (ld : Addr) : Str → Option Value :=
  mput "bare" vr (mput "piece" vp (mput "end" ve (mput "begin" vb (mput "text" (some (.str (stOf acc) tt)) (mput "roads" (some (.ref ld)) mnil)))))
inductive TxJ (ld : Addr) (rs : List Road) (led : List (Addr × Obj)) (i : Nat) (m₁ : Str → Option Value) (nx : List (Addr × Obj)) : Prop where
  | mk vr vp ve vb acc tt (h0 : m₁ = txMap vr vp ve vb acc tt ld) (h1 : led = nx) (h2 : acc.length ≤ 7 * i) (h3 : textGo rs = acc ++ textGo (rs.drop i)) : TxJ ld rs led i m₁ nx
local macro_rules | `(tactic| walk_at "exec For Tuple Name cons nil") => `(tactic| walk_at "forJ")
local macro_rules | `(tactic| walk_at "eval ListComp") => `(tactic| (k_here; k_dflt (refine Mine.comp_strD (F := by k_asm) (by with_unfolding_all rfl) (by decide) (by rfl) (by decide) (by rfl) ?_)))
local macro_rules | `(tactic| walk_at "α") => `(tactic| (rw [sizeLine_eq]; (try simp only [Mine.st_len, Mine.one_len, Mine.apS_len, List.length_cons, List.length_nil]); omega))
local macro_rules | `(tactic| walk_at "binaryOp Add str str") => Mine.ln `PyProof.Rows.add_str 0 1 false "Aα" none 0 0 "Iab"
local macro_rules | `(tactic| walk_at "call builtin:str.join") => Mine.ln `Mine.join_L 4 0 true "AaBmCsDs" none 0 0 "Iab"
section
variable {w : World} {dp un : Nat} {gd : Option (List Code)} {cn : Str} {cs : Scope} {a : Addr} {ccd : Value} {cl : List (Str × Addr)} {outer : List Env} {A₀ : Around} {base h₀ : Heap} {L : Addr} {m mg mb : Str → Option Value} {p : Program} {loose : List Str} {mean : ExcName → Option Value} {s : Shared} {Q E : Value → Shared → Prop} {news : List (Addr × Obj)}
theorem text_call {ld : Addr} {lvs : List Value} {kl : Nat} {tl : List (Addr × Obj)} {rs : List Road} (B : Below A₀ base outer h₀) (F : Fr h₀ L s.heap m) (X : (Mine.hdm.heap_1 w.params).In h₀) (N : News h₀ L s.heap news) (T : Top p loose mean mg mb h₀) (hk : cs.kind = .function) (hd : dp + 5 < recursionLimit)
  (hsub : ∀ q ∈ (ld, W.listOf lvs.toArray kl) :: tl, q ∈ news) (hof : OwnOff tl [ld]) (hin : All2 (RoE tl) lvs rs) (hz : rs.length ≤ 8) (hq2 : ∀ q ∈ rs, q.2.2.1.length ≤ 2)
  (ret : ∀ tt h' tk', Fr h₀ L h' m → News h₀ L h' news → Q (.str (stOf (textGo rs)) tt) {s with heap := h', toks := tk'}) :
  wpAny (model PySem.Challenge.pw_pg0318_02 w) (ktrTop dp un gd cn cs L a ccd cl outer) (call (.ref 306) [.ref ld]) Q E s := by
  refine wpAny_call ?_
  have N₁ := News.sub N hsub
  have hll := hin.length
  ktr_enter
  intro g L' h₂ hgs hgk hgn F₂ N₂ B₂ X₂ T₂
  clear hgs hgn B N₁
  change Fr g L' h₂ (mput "roads" (some (.ref ld)) mnil) at F₂
  try dsimp only
  show wpAny _ _ _ _ _ _
  k_fold
  try (refine Mine.set_walk ?_; intro A₉ e₉)
  k_steps
  rename Fr _ _ _ _ => Fn
  rename News _ _ _ _ => Nn
  refine' Mine.list_J (TxJ ld rs tl) ?hh Fn Nn ?hlo ?hj ?turn ?done
  case hh => rfl
  case hlo => exact OwnOff.ne hof (.head _)
  case hj => exact ⟨none, none, none, none, [], _, mext ["bare", "piece", "end", "begin", "text", "roads"] ⟨rfl, rfl, rfl, rfl, rfl, rfl, trivial⟩ (by intro y hy; simp only [Off] at hy; simp [txMap, mput, mnil, hy]), rfl, Nat.zero_le _, rfl⟩
  case done =>
    rintro m₁ nx h tk ⟨vr, vp, ve, vb, acc, tt, rfl, rfl, hal, htx⟩ F₃ N₃
    clear Fn Nn
    k_steps
    rename Fr _ _ _ _ => Fz
    rename News _ _ _ _ => Nz
    obtain ⟨F', N'⟩ := leave_ro F N hsub hgk Fz Nz sub_self
    rw [List.size_toArray, hll, List.drop_length, textGo, List.append_nil] at htx
    rw [htx] at ret
    exact ret tt _ tk F' N'
  case turn =>
    rintro i v m₁ nx h tk own hv hmem hoff ⟨vr, vp, ve, vb, acc, tt, rfl, rfl, hal, htx⟩ F₃ N₃
    clear Fn Nn
    have hv2 : lvs[i]? = some v := by simpa using hv
    have hi9 : i < rs.length := by rw [← hll]; exact (List.getElem?_eq_some_iff.mp hv2).1
    obtain ⟨v', hv3, t9, ta, tb, tc, td, rfl, hm9⟩ := hin.get (List.getElem?_eq_getElem hi9)
    obtain rfl : v = .ref t9 := Option.some.inj (hv2.symm.trans hv3)
    have hl2 := hq2 _ (List.getElem_mem hi9)
    have hdr : rs.drop i = rs[i] :: rs.drop (i + 1) := List.drop_eq_getElem_cons hi9
    generalize rs[i] = q at *
    obtain ⟨rb, re, rp, rr⟩ := q
    dsimp only at hm9 hl2
    replace hm9 : (t9, tup4 (.str (stOf [rb]) ta) (.str (stOf [re]) tb) (.str (stOf rp) tc) (.int (rr : Int) td)) ∈ tl ++ own := List.mem_append_left own hm9
    have hql := q_len
    clear hv hv2 hv3 hll
    k_steps
    · rename Fr _ _ _ _ => Fn
      rename News _ _ _ _ => Nn
      refine' Mine.srcS_L (fun i ys => StrsAre ys ((rp.take i).map fun c => stOf [92, c])) rfl Fn Nn (by rw [st_len]; omega) .nil ?step ?fin
      case step =>
        intro i2 ys c u9 I oI C oC D m₂ h8 tk8 E' hc hJ hC hx F9 N9 off ne
        clear Fn Nn
        k_steps
        refine CmpEnd.intro _ F9 N9 sub_self off ⟨rfl, ?_⟩
        have hc2 : rp[i2]? = some c := by simpa using hc
        rw [List.take_add_one, hc2, List.map_append]
        exact hJ.snoc
      case fin =>
        intro g9 ys hJ
        rw [show (stOf rp).cps.size = rp.length from List.size_toArray .., List.take_length] at hJ
        have hjs : (((rp.map fun c => stOf [92, c]).map (·.length)).sum + (rp.map fun c => stOf [92, c]).length * (Str.ofString "").length ≤ 100000) := by
          rw [bs_sum]; omega
        have hjl : (Txt.join (Str.ofString "") (rp.map fun c => stOf [92, c])).length ≤ 8 := by rw [joinBS, st_len, bs_len]; omega
        clear Fn Nn
        k_steps
        rename Fr _ _ _ _ => Fz
        rename News _ _ _ _ => Nz
        rw [joinBS, q_st.2, st_app, st_app, st_app, st_app] at Fz
        have hbz : rr = 1 := by omega
        have hw9 : wordT (rb, re, rp, rr) = [rb] ++ [re] ++ (rp.flatMap fun c => [92, c]) ++ [10] := if_pos hbz
        have hwl := wordT_len (q := (rb, re, rp, rr)) hl2
        rw [hw9] at hwl
        refine JEnd.intro tl Fz Nz (fun q hq => ?_) (fun q hq => ?_) hoff ⟨_, _, _, _, _, _, mext ["bare", "piece", "end", "begin", "text", "roads"] ⟨rfl, rfl, rfl, rfl, rfl, rfl, trivial⟩ (by intro y hy; simp only [Off] at hy; simp [txMap, mput, mnil, hy]), rfl, ?_, ?_⟩
        · exact .tail _ (List.mem_append_left _ hq)
        · exact .tail _ (List.mem_append_right _ hq)
        · simp only [List.length_append] at hwl ⊢; omega
        · rw [htx, hdr, textGo, hw9]; simp only [List.append_assoc]
    · rename Fr _ _ _ _ => Fz
      rename News _ _ _ _ => Nz
      rw [q_st.1, st_app, st_app, st_app, st_app, st_app] at Fz
      have hbz : ¬ rr = 1 := by omega
      have hw9 : wordT (rb, re, rp, rr) = [34] ++ [rb] ++ [re] ++ rp ++ [34] := if_neg hbz
      have hwl := wordT_len (q := (rb, re, rp, rr)) hl2
      rw [hw9] at hwl
      refine JEnd.intro tl Fz Nz (fun q hq => ?_) (fun q hq => ?_) hoff ⟨_, _, _, _, _, _, mext ["bare", "piece", "end", "begin", "text", "roads"] ⟨rfl, rfl, rfl, rfl, rfl, rfl, trivial⟩ (by intro y hy; simp only [Off] at hy; simp [txMap, mput, mnil, hy]), rfl, ?_, ?_⟩
      · exact List.mem_append_left _ hq
      · exact List.mem_append_right _ hq
      · simp only [List.length_append] at hwl ⊢; omega
      · rw [htx, hdr, textGo, hw9]; simp only [List.append_assoc]
end
end Mine

theorem Mine.tt_p_reader2 : True := by w_top off; exact trivial
namespace Mine
-- U-WHOLE
-- LAW 02: _law_reader
section
variable {prog : Program} {w : World} {A : Around} {E : Value → Shared → Prop} {s : Shared} {h₀ : Heap} {L : Addr} {m : Str → Option Value} {news : List (Addr × Obj)}
theorem sg_of {x : Str} {vs : List Value} (hl : vs.length = x.cps.size) (h : ∀ (i : Nat) v, vs[i]? = some v → SignAt x i v) : SgAre vs x.cps.toList := by
  have key : ∀ (l : List Nat) (us : List Value), us.length = l.length → (∀ (i : Nat) v, us[i]? = some v → ∃ c u, l[i]? = some c ∧ v = .str ⟨#[c]⟩ u) → SgAre us l := by
    intro l
    induction l with
    | nil => intro us hl _; rw [List.length_eq_zero_iff.mp hl]; exact .nil
    | cons c r ih =>
      intro us hl hu
      cases us with
      | nil => cases hl
      | cons v us =>
        obtain ⟨c', u, hc, rfl⟩ := hu 0 v rfl
        cases hc
        exact .cons (ih us (by simpa using hl) fun i v hv => hu (i + 1) v hv)
  refine key _ _ (by simpa using hl) fun i v hv => ?_
  obtain ⟨c, u, hc, e⟩ := h i v hv
  exact ⟨c, u, by simpa using hc, e⟩
theorem list_str_L {xt : Str} {tx : Tok} {Q : Value → Shared → Prop} (hh : A.handled = none) (F : Fr h₀ L s.heap m) (N : News h₀ L s.heap news) (hz : xt.length ≤ 100000)
    (h : ∀ D h' tk svs k, Fr h₀ L h' m → News h₀ L h' ((D, W.listOf svs.toArray k) :: news) → (∀ p ∈ news, p.1 < D) → SgAre svs xt.cps.toList → Q (.ref D) { s with heap := h', toks := tk }) :
    wpAny (model prog w) A (call (.type "list") [.str xt tx]) Q E s := by
  refine call_list_str hh xt tx (fun h' tk acc' c' hk hD hI => ?_) (by rw [sizeLine_eq]; have : xt.cps.size ≤ 100000 := hz; omega)
  refine h _ h' tk acc'.toList c' ⟨F.ns.keeps hk, fun b o e => hk b o (F.keep b o e), F.above⟩ ?_ (fun p hp => Heap.lt_size (N p hp).1) ?_
  · refine List.forall_mem_cons.mpr ⟨⟨?_, fun e => absurd F.ns.lt (e ▸ Nat.lt_irrefl _), next_is_new F⟩, fun p hp => ⟨hk _ _ (N p hp).1, (N p hp).2⟩⟩
    rw [Array.toArray_toList]; exact hD
  · exact sg_of (by rw [Array.length_toList]; exact hI.1) fun i v hv => hI.2 i v (by simpa using hv)
theorem read_setattr {x rf : Addr} {fd : FuncData} {sl : Array (Option Value)} {Q : Unit → Shared → Prop} (F : Fr h₀ L s.heap m) (N : News h₀ L s.heap news) (hm : (x, fnObj none fd sl) ∈ news)
    (h : ∀ sd oS h' tk', IsReadDict oS rf → (∀ p ∈ news, p.1 < sd) → ∃ news', UpdS [(x, fnObj (some sd) fd sl)] news news' ∧ (Fr h₀ L h' m → News h₀ L h' ((sd, oS) :: news') → Q () { s with heap := h', toks := tk' })) :
    wpAny (model prog w) A (setAttr (.ref x) "read" (.ref rf)) Q E s := by
  have z := N _ hm
  refine fn_setattr fn_lk_read z.1 fun h' tk' hx hns hk => ?_
  obtain ⟨oS, es, ep, g1, g2, g3, g4, g5⟩ := hns
  obtain ⟨news', u, q⟩ := h s.heap.objs.size oS h' tk' ⟨es, ep, g2, g3, g4, g5⟩ fun p hp => Heap.lt_size (N p hp).1
  have hxL : L ≠ x := fun e => z.2.1 e.symm
  obtain ⟨oL, e1, e2, hL, e3⟩ := F.ns
  have F' : Fr h₀ L h' m := ⟨⟨oL, e1, e2, hk _ _ hxL hL, e3⟩, fun b o e => hk b o (fun q => by rw [q, z.2.2] at e; cases e) (F.keep b o e), F.above⟩
  refine q F' (List.forall_mem_cons.mpr ⟨⟨g1, fun e => absurd F.ns.lt (e ▸ Nat.lt_irrefl _), next_is_new F⟩, News.updS u N (fun b o e n => hk b o (fun q => n (by rw [q]; exact .head _)) e) fun p hp => ?_⟩)
  rw [List.mem_singleton.mp hp]
  exact ⟨hx, z.2⟩
end
local macro_rules | `(tactic| walk_at "call type:list") => do
  let g := (some (← `(term| wpAny _ _ (call (Value.type _) [Value.str _ _]) _ _ _)))
  Mine.ln `Mine.list_str_L 4 0 true "AfBaCaDs" g 0 0 "Iabcdefghi Lh W"
local macro_rules | `(tactic| walk_at "setAttr ref") => Mine.ln `Mine.read_setattr 3 0 false "AaBaCm" none 0 9 "Iabcdef U Igh Lf D W"
local macro_rules | `(tactic| walk_at "α") => `(tactic| refine' Upd.head ?a; (case a => k_all))
local macro_rules | `(tactic| walk_at "call builtin:list.pop") => Mine.ln `Mine.pop0_L 4 0 true "AaBaCαDo" none 0 0 "Iabc W"
local macro_rules | `(tactic| walk_at "getMethod ref") => Mine.ln `Mine.getMethod_list 3 0 true "AaBmCf" none 0 0 ""
section
variable {w : World} {dp un : Nat} {gd : Option (List Code)} {cn : Str} {cs : Scope} {a : Addr} {ccd : Value} {cl : List (Str × Addr)} {outer : List Env} {A₀ : Around} {base h₀ : Heap} {L : Addr} {m mg mb : Str → Option Value} {p : Program} {loose : List Str} {mean : ExcName → Option Value} {s : Shared} {Q E : Value → Shared → Prop} {news : List (Addr × Obj)}
theorem lexOf {P : Params} {h₀ h' : Heap} {L x d f2 sd sg pb f1 c1 c2 c : Addr} {fd fdR : FuncData} {sl slR : Array (Option Value)} {oS o1 o2 o : Obj} {u1 u2 u3 u4 u5 u6 : Tok} {ws : Str} {svs : List Value} {k : Nat} {rest news : List (Addr × Obj)}
  (N : News h₀ L h' ((pb, W.listOf ([] : List Value).toArray 0) :: (x, instObj 76 d) :: (d, lexDict P ws 1 f2 pb u1 u2 u3 u4 u5 u6) :: (sd, oS) :: (f2, fnObj (some sd) fd sl) :: (c2, o2) :: (f1, fnObj none fdR slR) :: (c1, o1) :: (sg, W.listOf svs.toArray k) :: (c, o) :: rest)) (N0 : News h₀ L h' news) :
  News h₀ L h' (lexLed P ⟨x, d, f2, sd, sg, pb, f1, fd, fdR, sl, slR, oS, u1, u2, u3, u4, u6, ws⟩ 1 u5 svs k ((pb, W.listOf #[] 0) :: [(c2, o2), (f1, fnObj none fdR slR), (c1, o1), (c, o)] ++ news)) := by
  intro q hq
  simp only [List.mem_cons, List.mem_append, List.not_mem_nil, or_false, or_assoc, List.cons_append, List.nil_append] at hq
  rcases hq with h | h | h | h | h | h | h | h | h | h | h
  · exact N q (h ▸ .tail _ (.head _))
  · exact N q (h ▸ .tail _ (.tail _ (.head _)))
  · exact N q (h ▸ .tail _ (.tail _ (.tail _ (.tail _ (.head _)))))
  · exact N q (h ▸ .tail _ (.tail _ (.tail _ (.head _))))
  · exact N q (h ▸ .tail _ (.tail _ (.tail _ (.tail _ (.tail _ (.tail _ (.tail _ (.tail _ (.head _)))))))))
  · exact N q (h ▸ .head _)
  · exact N q (h ▸ .tail _ (.tail _ (.tail _ (.tail _ (.tail _ (.head _))))))
  · exact N q (h ▸ .tail _ (.tail _ (.tail _ (.tail _ (.tail _ (.tail _ (.head _)))))))
  · exact N q (h ▸ .tail _ (.tail _ (.tail _ (.tail _ (.tail _ (.tail _ (.tail _ (.head _))))))))
  · exact N q (h ▸ .tail _ (.tail _ (.tail _ (.tail _ (.tail _ (.tail _ (.tail _ (.tail _ (.tail _ (.head _))))))))))
  · exact N0 q h
theorem own_of {h₁ g : Heap} {L' : Addr} {own : List (Addr × Obj)} (P : List (Addr × Obj) → Prop) (_N : News g L' h₁ own) (k : P own) : P own := k
theorem reader_call {xt : Str} {tx : Tok} (B : Below A₀ base outer h₀) (F : Fr h₀ L s.heap m) (X : (Mine.hdm.heap_1 w.params).In h₀) (N : News h₀ L s.heap ((308, tabObj #[]) :: news)) (T : Top p loose mean mg mb h₀) (hk : cs.kind = .function) (hd : dp + 40 < recursionLimit) (hu : un + 100 < cLine)
  (hC : CodeHd h₀ 312 308) (hoff : ∀ q ∈ news, q.1 ≠ 308) (hz : xt.length ≤ 1000)
  (ret : ∀ (G : LexG) ln t5 svs k own ps h' tk', Fr h₀ L h' m → News h₀ L h' (lexLed w.params G ln t5 svs k ((G.pb, W.listOf #[] 0) :: own ++ (308, tabObj ps) :: news)) → SgAre svs xt.cps.toList → LexOk PySem.Challenge.pw_pg0318_02 w (Mine.hdm.heap_1 w.params) p loose mean mg mb G own → G.ws = "\n\t\r " → (@LT.lt Nat _ G.sg G.pb ∧ @LT.lt Nat _ G.d G.pb) → @LT.lt Nat _ G.x G.pb → (∀ q ∈ own, q.1 ≠ G.pb) → (∀ q ∈ (308, tabObj ps) :: news, q.1 ≠ G.d ∧ q.1 ≠ G.sg ∧ q.1 ≠ G.pb) → Q (.ref G.x) {s with heap := h', toks := tk'}) :
  wpAny (model PySem.Challenge.pw_pg0318_02 w) (ktrTop dp un gd cn cs L a ccd cl outer) (call (.ref 313) [.str xt tx]) Q E s := by
  refine wpAny_call ?_
  have hsub : ∀ p ∈ [((308 : Addr), tabObj #[])], p ∈ (308, tabObj #[]) :: news := sub_cons (.head _) sub_nil
  have N₁ : News h₀ L s.heap [(308, tabObj #[])] := News.sub N hsub
  have hz5 : xt.length ≤ 100000 := by omega
  have hC₂ := hC
  kc_enter
  intro g L' h₂ tk₂ cells hgs hgk hgn F₂ N₂ Y₂ B₂ X₂ T₂ l1
  replace hC₂ : CodeHd g 312 308 := hC₂.keeps fun b o e => hgk _ _ (F.keep _ _ e) fun q => by
    simp only [List.map_cons, List.map_nil, List.mem_cons, List.not_mem_nil, or_false] at q
    rw [q, (N _ (.head _)).2.2] at e; cases e
  clear hgs hgn B N₁
  obtain ⟨oc, hE, dc⟩ := CellsAre.one Y₂
  subst hE
  clear Y₂
  k_lt l1
  change Fr g L' h₂ (mput "text" (some (.str xt tx)) mnil) at F₂
  change oc.data = .cell none at dc
  simp only [List.cons_append, List.nil_append] at N₂
  try dsimp only
  show wpAny _ _ _ _ _ _
  k_fold
  try (refine Mine.set_walk ?_; intro A₉ e₉)
  k_steps
  rename Fr _ _ _ _ => Fz
  rename News _ _ _ _ => Nz
  rename_i sg h1 tk1 svs k S l1a h2 o' d' f1 c1 oc1 vs1 t1 ct1 dc1 h4 tk2 d1a d1b l1b l1c h5 f2 c2 oc2 vs2 t2 ct2 h6 tk3 d2a d2b l2b l2c h7 sd oS h8 tk4 R l3
  have Nw := News.sub Nz (news' := [(c2, oc2), (f1, _), (c1, oc1), (L' + 1, o')]) (sub_cons (by k_mem) (sub_cons (by k_mem) (sub_cons (by k_mem) (sub_cons (by k_mem) sub_nil))))
  have hR := own_of (fun own => ReadsOk PySem.Challenge.pw_pg0318_02 w (Mine.hdm.heap_1 w.params) p loose mean mg mb f1 sg own) Nw (by
    clear Fz Nz Nw B₂ X₂ T₂ ret hgk F N X T l3 S hoff hsub
    replace l1c := ltN l1c
    replace l2c := ltN l2c
    show ReadsOk PySem.Challenge.pw_pg0318_02 w (Mine.hdm.heap_1 w.params) p loose mean mg mb f1 sg _
    intro dp9 un9 gd9 cn9 cs9 a9 ccd9 cl9 outer9 A9 base9 h9 L9 m9 news9 s9 Q9 E9 svs9 chs9 k9 t9 B9 F9 X9 N9 T9 hk9 hd9 ho9 hm9 hs9 hl9 ret9
    refine wpAny_call ?_
    have hsub9 := List.forall_mem_cons.mpr ⟨hm9, ho9⟩
    have N91 := News.sub N9 hsub9
    refine' Mine.enter_nest _ ?k1 ?k2 ?k3 ?k4 ?k5 ?kA ?kF ?kK ?k6 ?k6d ?k7 ?k8 ?k9 ?kl ?kB ?_ ?c2 ?c3 ?c4 ?c5; (case kA => exact rfl); (case kF => exact rfl); (case kK => assumption); (case k1 => k_asm); (case k2 => k_asm); (case k3 => k_asm); (case k4 => exact N91); (case k5 => k_asm); (case k6 => exact (N91 (f1, _) (.tail _ (.tail _ (.head _)))).1); (case k6d => exact rfl); (case k7 => exact codeRec_news N91 (.tail _ (.tail _ (.tail _ (.head _)))) d1a d1b); (case k8 => ktr_room); (case k9 => exact BindsTo.of_eq rfl); (case kl => with_unfolding_all exact rfl); (case c5 => decide); (case kB => exact locs rfl); (case c2 => exact rfl); (case c3 => exact rfl); (case c4 => exact rfl)
    intro g2 L2 h2' hgs2 hgk2 hgn2 F₂ N₂ B₂ X₂ T₂
    clear hgs2 hgn2 B9
    change Fr g2 L2 h2' (mput "count" (some (.int 1 t9)) mnil) at F₂
    try dsimp only
    show wpAny _ _ _ _ _ _
    k_fold
    try (refine Mine.set_walk ?_; intro A₉ e₉)
    have hs8 := hs9.length
    cases hs9 with
    | nil =>
      k_steps
      rename Fr _ _ _ _ => Fz
      rename News _ _ _ _ => Nz
      obtain ⟨F', K', N'⟩ := leave_S [sg] F9 N9 hsub9 hgk2 Fz Nz (List.forall_mem_cons.mpr ⟨.inl (.head _), fun q hq => .inl (.tail _ hq)⟩)
      exact ret9 _ _ _ [] k9 F' K' (News.sub N' (sub_cons (.head _) sub_nil)) .nil
    | cons hr =>
      rw [List.length_cons] at hl9
      have hr8 := hr.length
      k_steps
      · rename Fr _ _ _ _ => Fz
        rename News _ _ _ _ => Nz
        obtain ⟨F', K', N'⟩ := leave_S [sg] F9 N9 hsub9 hgk2 Fz Nz (List.forall_mem_cons.mpr ⟨.inr (.head _), fun q hq => .inl (.tail _ hq)⟩)
        exact ret9 _ _ _ _ _ F' K' (News.sub N' (sub_cons (.head _) sub_nil)) hr
      · exfalso
        simp only [List.length_cons] at *
        omega)
  refine' Mine.lex_make B₂ Fz X₂ Nz T₂ rfl (by ktr_room) ?_
  intro x d pb u1 u2 u3 u4 u5 u6 h' tk' Fy Ny l4 l5 l6
  k_lt l4
  obtain ⟨F', N', K'⟩ := leave F (News.sub N hsub) hgk Fy Ny
  have N0 := News.off (News.sub N fun q hq => .tail _ hq) K' fun q hq z => by
    simp only [List.map_cons, List.map_nil, List.mem_cons, List.not_mem_nil, or_false] at z
    exact hoff q hq z
  replace l5 := ltN l5
  replace l6 := ltN l6
  replace l1c := ltN l1c
  replace l2c := ltN l2c
  have hne : ∀ (e : Addr) (o : Obj), (e, o) ∈ ((pb, W.listOf ([] : List Value).toArray 0) :: (x, instObj 76 d) :: (d, lexDict w.params "\n\t\r " 1 f2 pb u1 u2 u3 u4 u5 u6) :: _) → @Ne Nat 308 e → ∀ q ∈ news, q.1 ≠ e := fun e o hm hn => by
    intro q hq
    exact fresh_ne N hgk Ny hm (fun p hp => by rw [List.mem_singleton.mp hp]; exact hn) q (.tail _ hq)
  have N00 : News h₀ L h' ((308, _) :: news) := List.forall_mem_cons.mpr ⟨N' (308, _) (.tail _ (.tail _ (.tail _ (.tail _ (.tail _ (.tail _ (.tail _ (.tail _ (.tail _ (.tail _ (.head _))))))))))), N0⟩
  refine ret _ 1 u5 svs k _ _ h' tk' F' (lexOf N' N00) S ⟨hR, .tail _ (.head _), R, ?_, ?_⟩ rfl ?_ ?_ ?_ ?_
  · intro q hq r hr
    simp only [List.mem_cons, List.not_mem_nil, or_false] at hq hr
    rcases hq with h | h | h | h <;> rcases hr with h2 | h2 <;> (rw [h, h2]; refine neN ?_; dsimp only; omega)
  · refine ⟨?_, ?_, ?_, ?_⟩ <;> (refine ltN ?_; dsimp only; omega)
  · constructor <;> (refine ltN ?_; dsimp only; omega)
  · refine ltN ?_; dsimp only; omega
  · intro q hq
    simp only [List.mem_cons, List.not_mem_nil, or_false] at hq
    rcases hq with h | h | h | h <;> (rw [h]; refine neN ?_; dsimp only; omega)
  · refine List.forall_mem_cons.mpr ⟨⟨neN (by dsimp only; omega), neN (by dsimp only; omega), neN (by dsimp only; omega)⟩, ?_⟩
    intro q hq
    exact ⟨hne d _ (.tail _ (.tail _ (.head _))) (neN (by omega)) q hq, hne sg _ (.tail _ (.tail _ (.tail _ (.tail _ (.tail _ (.tail _ (.tail _ (.tail _ (.head _))))))))) (neN (by omega)) q hq, hne pb _ (.head _) (neN (by omega)) q hq⟩
end
end Mine

theorem Mine.tt_p_toks : True := by w_top off; exact trivial
namespace Mine
-- the lexer's words, one behind the other; addresses off a list
theorem lexQ_len : ∀ (n : Nat) (r acc : List Nat), r.length ≤ n → (lexQ r acc).1.length + (lexQ r acc).2.length ≤ acc.length + r.length
  | _, [], acc, _ => by rw [lexQ_n]; simp
  | 0, _ :: _, _, h => absurd h (Nat.not_succ_le_zero _)
  | n + 1, c :: r, acc, h => by
    rw [List.length_cons] at h
    by_cases h1 : c = 34
    · subst h1; rw [lexQ_q, List.length_cons]; dsimp only; omega
    · by_cases h2 : c = 92
      · subst h2; rw [lexQ_e]
        have := lexQ_len n r.tail (acc ++ r.take 1) (by rw [List.length_tail]; omega)
        have h3 := tail_take r
        rw [List.length_append] at this
        rw [List.length_cons]; omega
      · rw [lexQ_o h1 h2]
        have := lexQ_len n r (acc ++ [c]) (by omega)
        rw [List.length_append, List.length_singleton] at this
        rw [List.length_cons]; omega
theorem lexB_len (ws : List Nat) : ∀ (n : Nat) (r acc : List Nat), r.length ≤ n → (lexB ws r acc).1.length + (lexB ws r acc).2.length ≤ acc.length + r.length
  | _, [], acc, _ => by rw [lexB_n]; simp
  | 0, _ :: _, _, h => absurd h (Nat.not_succ_le_zero _)
  | n + 1, c :: r, acc, h => by
    rw [List.length_cons] at h
    by_cases h1 : c ∈ ws
    · rw [lexB_w h1, List.length_cons]; dsimp only; omega
    · by_cases h2 : c = 92
      · subst h2; rw [lexB_e h1]
        have := lexB_len ws n r.tail (acc ++ r.take 1) (by rw [List.length_tail]; omega)
        have h3 := tail_take r
        rw [List.length_append] at this
        rw [List.length_cons]; omega
      · rw [lexB_o h1 h2]
        have := lexB_len ws n r (acc ++ [c]) (by omega)
        rw [List.length_append, List.length_singleton] at this
        rw [List.length_cons]; omega
theorem lexO_len (ws : List Nat) : ∀ r : List Nat, (lexO ws r).1.length + (lexO ws r).2.length ≤ r.length
  | [] => Nat.le_refl _
  | c :: r => by
    rw [lexO, List.length_cons]
    split
    · exact Nat.le_succ_of_le (lexO_len ws r)
    · split
      · have := lexQ_len _ r [] (Nat.le_refl _)
        rw [List.length_nil] at this; omega
      · split
        · have := lexB_len ws _ r.tail (r.take 1) (Nat.le_refl _)
          have h3 := tail_take r
          omega
        · have := lexB_len ws _ r [c] (Nat.le_refl _)
          rw [List.length_singleton] at this; omega
inductive Toks (ws : List Nat) : List Nat → List (List Nat) → Prop where
  | nil {chs : List Nat} : lexO ws chs = ([], []) → Toks ws chs []
  | cons {chs w r : List Nat} {l : List (List Nat)} : lexO ws chs = (w, r) → w ≠ [] → Toks ws r l → Toks ws chs (w :: l)
def OffL (D : Addr) : List (Addr × Obj) → Prop
  | [] => True
  | p :: r => (@Ne Nat p.1 D) ∧ OffL D r
theorem offL {D : Addr} : ∀ {l : List (Addr × Obj)}, (∀ p ∈ l, p.1 ≠ D) → OffL D l
  | [], _ => trivial
  | p :: _, h => ⟨h p (.head _), offL fun q hq => h q (.tail _ hq)⟩
theorem offL_mem {D : Addr} : ∀ {l : List (Addr × Obj)}, OffL D l → ∀ p ∈ l, p.1 ≠ D
  | [], _, _, h => nomatch h
  | p :: _, h, q, hq => by
    rcases List.mem_cons.mp hq with rfl | hq
    · exact h.1
    · exact offL_mem h.2 q hq
theorem off_lt {tail : List (Addr × Obj)} {as : List Addr} {d : Addr} (h : AllLt d tail) (k : ∀ a ∈ as, d ≤ a) : OwnOff tail as := fun p hp a ha e => by
  have := allLt_mem tail h p hp
  have h2 := k a ha
  rw [e] at this
  exact absurd this (Nat.not_lt.mpr h2)
end Mine

theorem Mine.tt_p_ride2 : True := by w_top off; exact trivial
namespace Mine
-- LAW 02: what _law_ridden does, in plain words
def lowC (c : Nat) : Nat := if c < 97 then c + 32 else c
abbrev Best := List (Nat × List Nat)
abbrev RSt := Best × List Nat
def bget (bl : Best) (c : Nat) : Option (List Nat) := (bl.find? fun q => lowC q.1 == lowC c).map (·.2)
def bset (bl : Best) (c : Nat) (v : List Nat) : Best := (bl.filter fun q => lowC q.1 != lowC c) ++ [(c, v)]
def lev (size : Nat) (v : List Nat) : Int := wsLevel (wsL v) size
def rideNew (way : List Nat) (r : Road) : List Nat := way.take (wsL way).1 ++ r.2.2.1 ++ way.drop (wsL way).1 ++ [r.2.1]
def better (size : Nat) (new : List Nat) : Option (List Nat) → Bool
  | none => true
  | some old => decide (lev size new < lev size old)
def rideRoad (size : Nat) (way : List Nat) (st : RSt) (r : Road) : RSt :=
  if better size (rideNew way r) (bget st.1 r.2.1) then (bset st.1 r.2.1 (rideNew way r), st.2 ++ [r.2.1]) else st
def rsOf (rs : List Road) (c : Nat) : List Road := rs.filter fun r => lowC r.1 == lowC c
def rideTown (size : Nat) (rs : List Road) (st : RSt) : RSt :=
  match st.2 with
  | [] => st
  | c :: q => match bget st.1 c with
    | none => (st.1, q)
    | some way => (rsOf rs c).foldl (rideRoad size way) (st.1, q)
def rideN (size : Nat) (rs : List Road) : Nat → RSt → RSt
  | 0, st => st
  | n + 1, st => rideTown size rs (rideN size rs n st)
def ride (size : Nat) (rs : List Road) : Nat → RSt
  | 0 => ([(97, [97])], [97])
  | k + 1 => rideN size rs (ride size rs k).2.length (ride size rs k)
def Let (c : Nat) : Prop := (65 ≤ c ∧ c ≤ 68) ∨ (97 ≤ c ∧ c ≤ 100)
def WayOk (v : List Nat) : Prop := (∀ c ∈ v, (c = 32 ∨ c = 9) ∨ Let c) ∧ v.length ≤ 20 ∧ ∃ b c r, v = b ++ c :: r ∧ Blanks b ∧ Let c
def RoadOk (r : Road) : Prop := Let r.1 ∧ Let r.2.1 ∧ Blanks r.2.2.1 ∧ r.2.2.1.length ≤ 2
structure GoodS (st : RSt) : Prop where
  bl : st.1.length ≤ 8
  ok : ∀ q ∈ st.1, Let q.1 ∧ WayOk q.2
  ql : st.2.length ≤ 900
  q : ∀ c ∈ st.2, Let c
structure TownOk (size : Nat) (rs : List Road) (st : RSt) (c : Nat) (q : List Nat) (way : List Nat) : Prop where
  eq : st.2 = c :: q
  get : bget st.1 c = some way
  lt : Let c
  wk : WayOk way
  go : ∀ j, GoodS (((rsOf rs c).take j).foldl (rideRoad size way) (st.1, q))
structure RideOk (size : Nat) (rs : List Road) : Prop where
  start : ∀ k, k ≤ 4 → GoodS (ride size rs k)
  town : ∀ k i, k < 4 → i < (ride size rs k).2.length → ∃ c q way, TownOk size rs (rideN size rs i (ride size rs k)) c q way
  fin : (ride size rs 4).2 = []
abbrev wordOf (r : Road) : List Nat := r.1 :: r.2.1 :: r.2.2.1
-- letters: small, and as names
theorem let_dec : ([65, 66, 67, 68, 97, 98, 99, 100].all fun a => Txt.lower (stOf [a]) == stOf [lowC a] && okN a && okN (lowC a) && okV a && decide (97 ≤ lowC a ∧ lowC a ≤ 100)) = true := by decide +kernel
theorem let_mem {c : Nat} (h : Let c) : c ∈ [65, 66, 67, 68, 97, 98, 99, 100] := by
  simp only [List.mem_cons, List.not_mem_nil, or_false]
  unfold Let at h; omega
theorem let_ok {c : Nat} (h : Let c) : Txt.lower (stOf [c]) = stOf [lowC c] ∧ okN c = true ∧ okN (lowC c) = true ∧ okV c = true ∧ 97 ≤ lowC c ∧ lowC c ≤ 100 := by
  have := List.all_eq_true.mp let_dec c (let_mem h)
  simp only [Bool.and_eq_true, beq_iff_eq, decide_eq_true_eq] at this
  exact ⟨this.1.1.1.1, this.1.1.1.2, this.1.1.2, this.1.2, this.2.1, this.2.2⟩
theorem st_inj {a b : List Nat} (h : stOf a = stOf b) : a = b := by
  have : (stOf a).cps.toList = (stOf b).cps.toList := by rw [h]
  exact this
theorem low_eq {a b : Nat} (ha : Let a) (hb : Let b) : (Txt.lower (stOf [a]) == Txt.lower (stOf [b])) = (lowC a == lowC b) := by
  rw [(let_ok ha).1, (let_ok hb).1]
  by_cases q : lowC a = lowC b
  · rw [q]; simp
  · rw [beq_eq_false_iff_ne.mpr q, beq_eq_false_iff_ne.mpr fun z => q (List.cons.inj (st_inj z)).1]
theorem let_okN {c : Nat} (h : Let c) : ∀ x ∈ (stOf [c]).cps.toList, okN x = true := fun x hx => by rw [List.mem_singleton.mp hx]; exact (let_ok h).2.1
theorem let_okL {c : Nat} (h : Let c) : ∀ x ∈ (Txt.lower (stOf [c])).cps.toList, okN x = true := fun x hx => by rw [(let_ok h).1] at hx; rw [List.mem_singleton.mp hx]; exact (let_ok h).2.2.1
theorem way_okV {v : List Nat} (h : ∀ c ∈ v, (c = 32 ∨ c = 9) ∨ Let c) : ∀ x ∈ (stOf v).cps.toList, okV x = true := fun x hx => by
  rcases h x hx with (rfl | rfl) | h
  · decide
  · decide
  · exact (let_ok h).2.2.2.1
abbrev roHP (r : Road) : Str × Str := (stOf [r.1], stOf (r.2.1 :: r.2.2.1))
abbrev bHP (q : Nat × List Nat) : Str × Str := (stOf [q.1], stOf q.2)
theorem getall_eq {rs : List Road} {c : Nat} (h : ∀ r ∈ rs, RoadOk r) (hc : Let c) : (((rs.map roHP).filter fun q => Txt.lower q.1 == Txt.lower (stOf [c])).map (·.2)) = (rsOf rs c).map fun r => stOf (r.2.1 :: r.2.2.1) := by
  induction rs with
  | nil => rfl
  | cons r rs ih =>
    have ih := ih fun x hx => h x (.tail _ hx)
    unfold rsOf at ih ⊢
    rw [List.map_cons, List.filter_cons, List.filter_cons, low_eq (h r (.head _)).1 hc]
    split
    · rw [List.map_cons, List.map_cons, ih]
    · exact ih
theorem find_eq {bl : Best} {c : Nat} (h : ∀ q ∈ bl, Let q.1 ∧ WayOk q.2) (hc : Let c) : ((bl.map bHP).find? fun q => Txt.lower q.1 == Txt.lower (stOf [c])) = (bl.find? fun q => lowC q.1 == lowC c).map bHP := by
  induction bl with
  | nil => rfl
  | cons q bl ih =>
    have ih := ih fun x hx => h x (.tail _ hx)
    rw [List.map_cons, List.find?_cons, List.find?_cons, low_eq (h q (.head _)).1 hc]
    cases lowC q.1 == lowC c
    · exact ih
    · rfl
theorem set_eq {bl : Best} {c : Nat} {v : List Nat} (h : ∀ q ∈ bl, Let q.1 ∧ WayOk q.2) (hc : Let c) : (((bl.map bHP).filter fun q => Txt.lower q.1 != Txt.lower (stOf [c])) ++ [(stOf [c], stOf v)]) = (bset bl c v).map bHP := by
  rw [bset, List.map_append]
  congr 1
  induction bl with
  | nil => rfl
  | cons q bl ih =>
    have ih := ih fun x hx => h x (.tail _ hx)
    have e : (Txt.lower (bHP q).1 != Txt.lower (stOf [c])) = (lowC q.1 != lowC c) := by rw [bne, low_eq (h q (.head _)).1 hc]; rfl
    rw [List.map_cons, List.filter_cons, List.filter_cons, e]
    split
    · rw [List.map_cons, ih]
    · exact ih
theorem way_cut {v : List Nat} (h : WayOk v) : ∃ b l, v = b ++ l ∧ Blanks b ∧ (wsL v).1 = b.length := by
  obtain ⟨b, c, r, rfl, hb, hc⟩ := h.2.2
  refine ⟨b, c :: r, rfl, hb, ?_⟩
  have hc9 : c ≠ 32 ∧ c ≠ 9 := by unfold Let at hc; omega
  show (wsGo (b ++ c :: r) 0 0 0 []).1 = _
  rw [wsGo_stop hc9.1 hc9.2 r b 0 0 0 [] hb]
  exact wsL_n hb
structure Bag (T0 own : List (Addr × Obj)) (as : List Addr) (T : List (Addr × Obj)) : Prop where
  sub : ∀ q ∈ T0, q ∈ T
  off : OwnOff T as
  own : ∀ p ∈ T, ∀ q ∈ own, p.1 ≠ q.1
theorem Bag.cons {T0 own T : List (Addr × Obj)} {as : List Addr} (B : Bag T0 own as T) {q : Addr × Obj} (h1 : ∀ a ∈ as, q.1 ≠ a) (h2 : ∀ p ∈ own, q.1 ≠ p.1) : Bag T0 own as (q :: T) where
  sub := fun p hp => .tail _ (B.sub p hp)
  off := fun p hp a ha => by
    rcases List.mem_cons.mp hp with rfl | hp
    · exact h1 a ha
    · exact B.off p hp a ha
  own := fun p hp r hr => by
    rcases List.mem_cons.mp hp with rfl | hp
    · exact h2 r hr
    · exact B.own p hp r hr
inductive OptE (v : Value) : Option (List Nat) → Prop where
  | none : v = .none → OptE v none
  | some (w : List Nat) (t : Tok) : v = .str (stOf w) t → OptE v (some w)
theorem opt_some {v : Value} {w : List Nat} (h : OptE v (some w)) : ∃ t, v = .str (stOf w) t := by
  cases h with
  | some _ t e => exact ⟨t, e⟩
theorem opt_none {v : Value} (h : OptE v none) : v = .none := by
  cases h with
  | none e => exact e
theorem get_opt {bl : Best} {c : Nat} {r : Value} (h : ∀ q ∈ bl, Let q.1 ∧ WayOk q.2) (hc : Let c) (g : GetAns (bl.map bHP) (stOf [c]) r) : OptE r (bget bl c) := by
  unfold GetAns at g
  rw [find_eq h hc] at g
  unfold bget
  rcases g with ⟨q, t, e, rfl⟩ | ⟨e, rfl⟩
  · cases hf : bl.find? fun q => lowC q.1 == lowC c with
    | none => rw [hf] at e; cases e
    | some x => rw [hf] at e; cases e; exact .some _ t rfl
  · cases hf : bl.find? fun q => lowC q.1 == lowC c with
    | none => exact .none rfl
    | some x => rw [hf] at e; cases e
theorem new_eq {way : List Nat} {r : Road} (h : WayOk way) : Txt.slice (stOf way) none (some ((wsL way).1 : Int)) ++ stOf r.2.2.1 ++ Txt.slice (stOf way) (some ((wsL way).1 : Int)) none ++ stOf [r.2.1] = stOf (rideNew way r) := by
  obtain ⟨b, l, rfl, hb, hn⟩ := way_cut h
  rw [rideNew, hn, sl_to b l rfl, sl_from b l rfl, st_app, st_app, st_app, List.take_left, List.drop_left]
theorem new_len {way : List Nat} {r : Road} (h : WayOk way) (hr : RoadOk r) : (rideNew way r).length ≤ 23 := by
  have := h.2.1
  have := hr.2.2.2
  simp only [rideNew, List.length_append, List.length_take, List.length_drop, List.length_singleton]; omega
theorem new_ok {way : List Nat} {r : Road} (h : WayOk way) (hr : RoadOk r) : ∀ c ∈ rideNew way r, (c = 32 ∨ c = 9) ∨ Let c := by
  intro c hc
  simp only [rideNew, List.mem_append, List.mem_singleton] at hc
  rcases hc with ((hc | hc) | hc) | rfl
  · exact h.1 c (List.mem_of_mem_take hc)
  · exact .inl (hr.2.2.1 c hc)
  · exact h.1 c (List.mem_of_mem_drop hc)
  · exact .inr hr.2.1
theorem Bag.hi {T0 U T : List (Addr × Obj)} {as : List Addr} {d : Addr} (B : Bag T0 U as T) (N : List (Addr × Obj)) (hn : ∀ p ∈ N, @LE.le Nat _ d p.1) (hU : ∀ q ∈ U, @LT.lt Nat _ q.1 d) (ha : ∀ a ∈ as, @LT.lt Nat _ a d) : Bag T0 U as (N ++ T) where
  sub := fun p hp => List.mem_append_right _ (B.sub p hp)
  off := ooA (fun p hp a h => Nat.ne_of_gt (Nat.lt_of_lt_of_le (ha a h) (hn p hp))) B.off
  own := fun p hp q hq => (List.mem_append.mp hp).elim (fun hp => Nat.ne_of_gt (Nat.lt_of_lt_of_le (hU q hq) (hn p hp))) fun hp => B.own p hp q hq
theorem Bag.out {T0 U V T : List (Addr × Obj)} {as : List Addr} (B : Bag T0 U as T) (h : ∀ p ∈ T, ∀ q ∈ V, p.1 ≠ q.1) : Bag T0 (U ++ V) as T where
  sub := B.sub
  off := B.off
  own := fun p hp q hq => (List.mem_append.mp hq).elim (B.own p hp q) (h p hp q)
theorem Bag.inn {T0 U V T : List (Addr × Obj)} {as : List Addr} (B : Bag T0 (U ++ V) as T) : Bag T0 U as T where
  sub := B.sub
  off := B.off
  own := fun p hp q hq => B.own p hp q (List.mem_append_left _ hq)
theorem Bag.from {T0 T1 U T : List (Addr × Obj)} {as : List Addr} (B : Bag T1 U as T) (h : ∀ q ∈ T0, q ∈ T1) : Bag T0 U as T := ⟨fun q hq => B.sub q (h q hq), B.off, B.own⟩
theorem News.bag4w {h₀ h : Heap} {L : Addr} {p0 p1 p2 p3 a b : Addr × Obj} {T U : List (Addr × Obj)} (N : News h₀ L h (p0 :: p1 :: p2 :: p3 :: a :: b :: (T ++ U))) : ∃ T5, T5 = [p0, p1, p2, p3] ++ T ∧ News h₀ L h (a :: b :: (T5 ++ U)) :=
  ⟨_, rfl, News.sub N (sub_cons (.tail _ (.tail _ (.tail _ (.tail _ (.head _))))) (sub_cons (.tail _ (.tail _ (.tail _ (.tail _ (.tail _ (.head _)))))) (sub_cons (.head _) (sub_cons (.tail _ (.head _)) (sub_cons (.tail _ (.tail _ (.head _))) (sub_cons (.tail _ (.tail _ (.tail _ (.head _)))) (fun q hq => (.tail _ (.tail _ (.tail _ (.tail _ (.tail _ (.tail _ hq)))))))))))))⟩
theorem town_step {size : Nat} {rs : List Road} {st : RSt} {c : Nat} {q way : List Nat} (h : TownOk size rs st c q way) : rideTown size rs st = (rsOf rs c).foldl (rideRoad size way) (st.1, q) := by
  obtain ⟨bl, qs⟩ := st
  have e := h.eq
  have g := h.get
  dsimp only at e g
  rw [rideTown, e]
  dsimp only
  rw [g]
end Mine

theorem Mine.tt_p_ridden : True := by w_top off; exact trivial
namespace Mine
-- LAW 02: _law_ridden
-- U-WHOLE
theorem item_0 (c : Nat) (r : List Nat) : Txt.item (stOf (c :: r)) 0 = stOf [c] := item_meets ⟨Int.le_refl _, by rw [st_len, List.length_cons]; omega⟩
theorem sl_1 (c : Nat) (r : List Nat) : Txt.slice (stOf (c :: r)) (some 1) none = stOf r := sl_from [c] r (n := 1) rfl
abbrev aMap (wd : List Nat) (tw : Tok) (rx : Addr) (size : Nat) (tsz : Tok) (x : Addr) : Str → Option Value :=
  mput "word" (some (.str (stOf wd) tw)) (mput "roads" (some (.ref rx)) (mput "size" (some (.int (size : Int) tsz)) (mput "lexer" (some (.ref x)) mnil)))
inductive AJ (P : Params) (G : LexG) (own : List (Addr × Obj)) (pk : Nat) (rs : List Road) (size : Nat) (tsz : Tok) (ca : Addr) (oc : Obj) (rx rd rhl : Addr) (trh : Tok) (n : Nat) (m₁ : Str → Option Value) (nx : List (Addr × Obj)) : Prop where
  | mk (done : List Road) (wd chs : List Nat) hvs svs hk k ln t5 tw T (h0 : m₁ = aMap wd tw rx size tsz G.x)
    (h1 : nx = (rhl, W.listOf (hvs : List Value).toArray hk) :: (rx, instObj 290 rd) :: (rd, hdDict P trh rhl) :: (ca, oc) :: lexLed P G ln t5 svs k ((G.pb, W.listOf #[] pk) :: T))
    (hv : PairsIn T hvs (done.map roHP)) (sg : SgAre svs chs) (hl : chs.length ≤ 1000) (sub : ∀ q ∈ own, q ∈ T) (off : OwnOff T [G.d, G.sg, G.pb, rhl, ca])
    (h : (∃ r rest, rs = done ++ r :: rest ∧ wd = wordOf r ∧ Toks G.ws.cps.toList chs (rest.map wordOf) ∧ n = rest.length + 1) ∨ (rs = done ∧ wd = [] ∧ chs = [] ∧ n = 0)) : AJ P G own pk rs size tsz ca oc rx rd rhl trh n m₁ nx
theorem AJ.tok {P : Params} {G : LexG} {own T : List (Addr × Obj)} {pk : Nat} {rs done rest : List Road} {size : Nat} {tsz tw : Tok} {ca : Addr} {oc : Obj} {rx rd rhl : Addr} {trh : Tok} {m₁ : Str → Option Value} {chs : List Nat} {hvs svs : List Value} {hk k : Nat} {ln : Int} {t5 : Tok}
    (hT : Toks G.ws.cps.toList chs (rest.map wordOf)) (hr : rs = done ++ rest) (hm : m₁ = aMap (lexO G.ws.cps.toList chs).1 tw rx size tsz G.x) (hv : PairsIn T hvs (done.map roHP)) (hs : SgAre svs (lexO G.ws.cps.toList chs).2) (hl : chs.length ≤ 1000) (sub : ∀ q ∈ own, q ∈ T) (off : OwnOff T [G.d, G.sg, G.pb, rhl, ca]) :
    AJ P G own pk rs size tsz ca oc rx rd rhl trh rest.length m₁ ((rhl, W.listOf (hvs : List Value).toArray hk) :: (rx, instObj 290 rd) :: (rd, hdDict P trh rhl) :: (ca, oc) :: lexLed P G ln t5 svs k ((G.pb, W.listOf #[] pk) :: T)) := by
  have hle := lexO_len G.ws.cps.toList chs
  cases rest with
  | nil =>
    cases hT with
    | nil e =>
      rw [e] at hm hs
      exact ⟨done, _, _, hvs, svs, hk, k, ln, t5, tw, T, hm, rfl, hv, hs, Nat.zero_le _, sub, off, .inr ⟨by rw [hr, List.append_nil], rfl, rfl, rfl⟩⟩
  | cons r rest =>
    cases hT with
    | cons e hne hT' =>
      rw [e] at hm hs hle
      dsimp only at hle
      exact ⟨done, _, _, hvs, svs, hk, k, ln, t5, tw, T, hm, rfl, hv, hs, by omega, sub, off, .inl ⟨r, rest, hr, rfl, hT', by rw [List.length_cons]⟩⟩
theorem News.bagA {h₀ h : Heap} {L : Addr} {p0 p1 p2 p3 p4 p5 p6 p7 p8 p9 p10 p11 p12 p13 : Addr × Obj} {T : List (Addr × Obj)} (N : News h₀ L h (p0 :: p1 :: p2 :: p3 :: p4 :: p5 :: p6 :: p7 :: p8 :: p9 :: p10 :: p11 :: p12 :: p13 :: T)) : ∃ T1, T1 = p0 :: p2 :: p3 :: p4 :: p5 :: p6 :: p7 :: p8 :: p10 :: p11 :: T ∧ News h₀ L h (p13 :: p1 :: p9 :: p12 :: T1) :=
  ⟨_, rfl, News.sub N (sub_cons (.tail _ (.tail _ (.tail _ (.tail _ (.tail _ (.tail _ (.tail _ (.tail _ (.tail _ (.tail _ (.tail _ (.tail _ (.tail _ (.head _)))))))))))))) (sub_cons (.tail _ (.head _)) (sub_cons (.tail _ (.tail _ (.tail _ (.tail _ (.tail _ (.tail _ (.tail _ (.tail _ (.tail _ (.head _)))))))))) (sub_cons (.tail _ (.tail _ (.tail _ (.tail _ (.tail _ (.tail _ (.tail _ (.tail _ (.tail _ (.tail _ (.tail _ (.tail _ (.head _))))))))))))) (sub_cons (.head _) (sub_cons (.tail _ (.tail _ (.head _))) (sub_cons (.tail _ (.tail _ (.tail _ (.head _)))) (sub_cons (.tail _ (.tail _ (.tail _ (.tail _ (.head _))))) (sub_cons (.tail _ (.tail _ (.tail _ (.tail _ (.tail _ (.head _)))))) (sub_cons (.tail _ (.tail _ (.tail _ (.tail _ (.tail _ (.tail _ (.head _))))))) (sub_cons (.tail _ (.tail _ (.tail _ (.tail _ (.tail _ (.tail _ (.tail _ (.head _)))))))) (sub_cons (.tail _ (.tail _ (.tail _ (.tail _ (.tail _ (.tail _ (.tail _ (.tail _ (.head _))))))))) (sub_cons (.tail _ (.tail _ (.tail _ (.tail _ (.tail _ (.tail _ (.tail _ (.tail _ (.tail _ (.tail _ (.head _))))))))))) (sub_cons (.tail _ (.tail _ (.tail _ (.tail _ (.tail _ (.tail _ (.tail _ (.tail _ (.tail _ (.tail _ (.tail _ (.head _)))))))))))) (fun q hq => (.tail _ (.tail _ (.tail _ (.tail _ (.tail _ (.tail _ (.tail _ (.tail _ (.tail _ (.tail _ (.tail _ (.tail _ (.tail _ (.tail _ hq)))))))))))))))))))))))))))))⟩
def NeA (a b : Nat) : Prop := a ≠ b
theorem NeA.ne {a b : Nat} (h : NeA a b) : a ≠ b := h
theorem NeA.en {a b : Nat} (h : NeA a b) : b ≠ a := fun e => h e.symm
theorem neUp {bd bx bl a : Nat} (h2 : bd < bx) (h3 : bx < bl) (h : a < bd) : NeA bl a := Nat.ne_of_gt (Nat.lt_trans h (Nat.lt_trans h2 h3))
theorem lexNe {G : LexG} (h : LexLt G) (hx : @LT.lt Nat _ G.x G.pb) : (NeA G.sg G.st) ∧ (NeA G.sg G.sd) ∧ (NeA G.sg G.d) ∧ (NeA G.sg G.x) ∧ (NeA G.sg G.pb) ∧ (NeA G.st G.sd) ∧ (NeA G.st G.d) ∧ (NeA G.st G.x) ∧ (NeA G.st G.pb) ∧ (NeA G.sd G.d) ∧ (NeA G.sd G.x) ∧ (NeA G.sd G.pb) ∧ (NeA G.d G.x) ∧ (NeA G.d G.pb) ∧ (NeA G.x G.pb) := by
  obtain ⟨a1, a2, a3, a4⟩ := h
  have l02 := Nat.lt_trans a1 a2
  have l13 := Nat.lt_trans a2 a3
  have l24 := Nat.lt_trans a3 a4
  have l35 := Nat.lt_trans a4 hx
  have l03 := Nat.lt_trans l02 a3
  have l14 := Nat.lt_trans l13 a4
  have l25 := Nat.lt_trans l24 hx
  have l04 := Nat.lt_trans l03 a4
  have l15 := Nat.lt_trans l14 hx
  have l05 := Nat.lt_trans l04 hx
  exact ⟨Nat.ne_of_lt a1, Nat.ne_of_lt l02, Nat.ne_of_lt l03, Nat.ne_of_lt l04, Nat.ne_of_lt l05, Nat.ne_of_lt a2, Nat.ne_of_lt l13, Nat.ne_of_lt l14, Nat.ne_of_lt l15, Nat.ne_of_lt a3, Nat.ne_of_lt l24, Nat.ne_of_lt l25, Nat.ne_of_lt a4, Nat.ne_of_lt l35, Nat.ne_of_lt hx⟩
theorem hdNe {a b c d e f g bd bx bl : Nat} {P : Prop} (h : a < bd ∧ b < bd ∧ c < bd ∧ d < bd ∧ e < bd ∧ f < bd ∧ g < bd ∧ P) (h2 : bd < bx) (h3 : bx < bl) : NeA bd a ∧ NeA bd c ∧ NeA bd f ∧ NeA bx a ∧ NeA bx c ∧ NeA bx f ∧ NeA bl a ∧ NeA bl c ∧ NeA bl f :=
  ⟨Nat.ne_of_gt h.1, Nat.ne_of_gt h.2.2.1, Nat.ne_of_gt h.2.2.2.2.2.1, Nat.ne_of_gt (Nat.lt_trans h.1 h2), Nat.ne_of_gt (Nat.lt_trans h.2.2.1 h2), Nat.ne_of_gt (Nat.lt_trans h.2.2.2.2.2.1 h2), neUp h2 h3 h.1, neUp h2 h3 h.2.2.1, neUp h2 h3 h.2.2.2.2.2.1⟩
local macro_rules | `(tactic| k_ne) => `(tactic| ((try dsimp only); first | with_reducible assumption | exact Mine.NeA.ne (by with_reducible assumption) | exact Mine.NeA.en (by with_reducible assumption) | (refine neN ?_; omega)))
inductive RowE (led : List (Addr × Obj)) (v : Value) (row : List (Option (List Nat))) : Prop where
  | mk t us k (h0 : v = .ref t) (h1 : (t, W.listOf (us : List Value).toArray k) ∈ led) (h2 : All2 OptE us row) : RowE led v row
theorem RowE.mono {led led' : List (Addr × Obj)} (k : ∀ p ∈ led, p ∈ led') (v : Value) (r : List (Option (List Nat))) (h : RowE led v r) : RowE led' v r := by
  obtain ⟨t, us, n, e, h1, h2⟩ := h
  exact ⟨t, us, n, e, k _ h1, h2⟩
def rowAt (size : Nat) (rs : List Road) (k : Nat) : List (Option (List Nat)) := [97, 98, 99, 100].map (bget (ride size rs k).1)
def rowsAt (size : Nat) (rs : List Road) (k : Nat) : List (List (Option (List Nat))) := (List.range k).map fun i => rowAt size rs (i + 1)
abbrev rMap (v1 v2 v3 v4 v5 v6 v7 v8 v9 : Option Value) (tl : Addr) (wt : Nat) (tw : Tok) (v12 : Option Value) (rx : Addr) (size : Nat) (tsz : Tok) (x : Addr) : Str → Option Value :=
  mput "old" v1 (mput "new" v2 (mput "road" v3 (mput "cut" v4 (mput "way" v5 (mput "town" v6 (mput "step" v7 (mput "pushed" v8 (mput "turn" v9 (mput "told" (some (.ref tl)) (mput "waiting" (some (.int (wt : Int) tw)) (mput "word" v12 (mput "roads" (some (.ref rx)) (mput "size" (some (.int (size : Int) tsz)) (mput "lexer" (some (.ref x)) mnil))))))))))))))
def rNames : List Str := ["old", "new", "road", "cut", "way", "town", "step", "pushed", "turn", "told", "waiting", "word", "roads", "size", "lexer"]
inductive TJ (pb bhl tl d sg : Addr) (oD oS : Obj) (T0 : List (Addr × Obj)) (v12 : Option Value) (rx : Addr) (size : Nat) (tsz : Tok) (x : Addr) (rs : List Road) (i : Nat) (m₁ : Str → Option Value) (nx : List (Addr × Obj)) : Prop where
  | mk v1 v2 v3 v4 v5 v6 v7 v8 v9 tw qvs qk bvs bk tvs tk T (h0 : m₁ = rMap v1 v2 v3 v4 v5 v6 v7 v8 v9 tl (ride size rs i).2.length tw v12 rx size tsz x)
    (h1 : nx = (pb, W.listOf (qvs : List Value).toArray qk) :: (bhl, W.listOf (bvs : List Value).toArray bk) :: (tl, W.listOf (tvs : List Value).toArray tk) :: (d, oD) :: (sg, oS) :: T)
    (hq : StrsAre qvs ((ride size rs i).2.map fun c => stOf [c])) (hb : PairsIn T bvs ((ride size rs i).1.map bHP)) (ht : All2 (RowE T) tvs (rowsAt size rs i)) (sub : ∀ q ∈ T0, q ∈ T) (off : OwnOff T [pb, bhl, tl, d, sg]) : TJ pb bhl tl d sg oD oS T0 v12 rx size tsz x rs i m₁ nx
inductive RJ (pb bhl : Addr) (R T0 : List (Addr × Obj)) (mm : Option Value → Option Value → Option Value → Option Value → Option Value → Option Value → Option Value → Option Value → Str → Option Value) (S : Nat → RSt) (z : Nat → Nat) (i : Nat) (m₁ : Str → Option Value) (nx : List (Addr × Obj)) : Prop where
  | mk v1 v2 v3 v4 v5 v6 v7 tp qvs qk bvs bk T (pz : Nat) (h0 : m₁ = mm v1 v2 v3 v4 v5 v6 v7 (some (.int (pz : Int) tp)))
    (h1 : nx = (pb, W.listOf (qvs : List Value).toArray qk) :: (bhl, W.listOf (bvs : List Value).toArray bk) :: (T ++ R))
    (hq : StrsAre qvs ((S i).2.map fun c => stOf [c])) (hb : PairsIn T bvs ((S i).1.map bHP)) (hz : (S i).2.length = z i + pz) (bag : Bag T0 R [pb, bhl] T) : RJ pb bhl R T0 mm S z i m₁ nx
inductive TCut (g : Heap) (L : Addr) (m₀ : Str → Option Value) (pE bE : Addr × Obj) (U T0 : List (Addr × Obj)) (as : List Addr) (bb : Bool) (s : Shared) (b : Bool) (s' : Shared) : Prop where
  | mk h' tk' T' (e0 : b = bb) (e1 : s' = {s with heap := h', toks := tk'}) (F : Fr g L h' m₀) (N : News g L h' (pE :: bE :: (T' ++ U))) (bag : Bag T0 U as T') : TCut g L m₀ pE bE U T0 as bb s b s'
theorem TCut.hi {g h' : Heap} {L : Addr} {m₀ : Str → Option Value} {pE bE p0 p1 p2 p3 p4 p5 p6 p7 : Addr × Obj} {U T0 T : List (Addr × Obj)} {as : List Addr} {bb b : Bool} {s : Shared} {tk' : Nat} {d : Addr} (F : Fr g L h' m₀) (N : News g L h' (p0 :: p1 :: p2 :: p3 :: p4 :: p5 :: p6 :: p7 :: pE :: bE :: (T ++ U))) (e : b = bb) (B : Bag T0 U as T) (hn : ∀ p ∈ [p0, p1, p2, p3, p4, p5, p6, p7], @LE.le Nat _ d p.1) (hU : AllLt d (T ++ U)) (ha : ∀ a ∈ as, @LT.lt Nat _ a d) : TCut g L m₀ pE bE U T0 as bb s b {s with heap := h', toks := tk'} :=
  ⟨h', tk', [p0, p1, p2, p3, p4, p5, p6, p7] ++ T, e, rfl, F, News.sub N (sub_cons (.tail _ (.tail _ (.tail _ (.tail _ (.tail _ (.tail _ (.tail _ (.tail _ (.head _))))))))) (sub_cons (.tail _ (.tail _ (.tail _ (.tail _ (.tail _ (.tail _ (.tail _ (.tail _ (.tail _ (.head _)))))))))) (sub_cons (.head _) (sub_cons (.tail _ (.head _)) (sub_cons (.tail _ (.tail _ (.head _))) (sub_cons (.tail _ (.tail _ (.tail _ (.head _)))) (sub_cons (.tail _ (.tail _ (.tail _ (.tail _ (.head _))))) (sub_cons (.tail _ (.tail _ (.tail _ (.tail _ (.tail _ (.head _)))))) (sub_cons (.tail _ (.tail _ (.tail _ (.tail _ (.tail _ (.tail _ (.head _))))))) (sub_cons (.tail _ (.tail _ (.tail _ (.tail _ (.tail _ (.tail _ (.tail _ (.head _)))))))) (fun q hq => (.tail _ (.tail _ (.tail _ (.tail _ (.tail _ (.tail _ (.tail _ (.tail _ (.tail _ (.tail _ hq))))))))))))))))))))), B.hi _ hn (fun q hq => allLt_mem _ hU q (List.mem_append_right _ hq)) ha⟩
theorem RJ.jend {g h' : Heap} {L : Addr} {m' : Str → Option Value} {pb bhl : Addr} {R own T0 T : List (Addr × Obj)} {mm : Option Value → Option Value → Option Value → Option Value → Option Value → Option Value → Option Value → Option Value → Str → Option Value} {S : Nat → RSt} {z : Nat → Nat} {i qk bk pz tk' : Nat} {qvs bvs : List Value} {v1 v2 v3 v4 v5 v6 v7 : Option Value} {tp : Tok} {s : Shared} (F : Fr g L h' m') (N : News g L h' ((pb, W.listOf qvs.toArray qk) :: (bhl, W.listOf bvs.toArray bk) :: (T ++ (R ++ own))))
    (hp : ∀ q ∈ own, @Ne Nat pb q.1) (hb' : ∀ q ∈ own, @Ne Nat bhl q.1) (hR : ∀ p ∈ R, ∀ q ∈ own, p.1 ≠ q.1) (hm : m' = mm v1 v2 v3 v4 v5 v6 v7 (some (.int (pz : Int) tp))) (hq : StrsAre qvs ((S i).2.map fun c => stOf [c])) (hb : PairsIn T bvs ((S i).1.map bHP)) (hz : (S i).2.length = z i + pz) (bag : Bag T0 (R ++ own) [pb, bhl] T) : JEnd g L (RJ pb bhl R T0 mm S z i) own s {s with heap := h', toks := tk'} :=
  JEnd.intro ((pb, W.listOf qvs.toArray qk) :: (bhl, W.listOf bvs.toArray bk) :: (T ++ R)) F N (sub_cons (.head _) (sub_cons (.tail _ (.head _)) fun q hq => .tail _ (.tail _ ((List.mem_append.mp hq).elim (fun hq => List.mem_append_left _ hq) fun hq => List.mem_append_right _ (List.mem_append_left _ hq))))) (fun q hq => .tail _ (.tail _ (List.mem_append_right _ (List.mem_append_right _ hq))))
    (List.forall_mem_cons.mpr ⟨hp, List.forall_mem_cons.mpr ⟨hb', fun p hp => (List.mem_append.mp hp).elim (fun hp q hq => bag.own p hp q (List.mem_append_right _ hq)) fun hp => hR p hp⟩⟩) ⟨v1, v2, v3, v4, v5, v6, v7, tp, qvs, qk, bvs, bk, T, pz, hm, rfl, hq, hb, hz, bag.inn⟩
theorem News.bag1w {h₀ h : Heap} {L : Addr} {p a b : Addr × Obj} {T U : List (Addr × Obj)} (N : News h₀ L h (p :: a :: b :: (T ++ U))) : ∃ T9, T9 = p :: T ∧ News h₀ L h (a :: b :: (T9 ++ U)) :=
  ⟨_, rfl, News.sub N (sub_cons (.tail _ (.head _)) (sub_cons (.tail _ (.tail _ (.head _))) (sub_cons (.head _) (fun q hq => (.tail _ (.tail _ (.tail _ hq)))))))⟩
def CallAt (P : Prop) : Prop := P
theorem cl_stop {P : Prop} (h : CallAt P) : P := h
theorem cl_stopA {m A a xs Q E s} (k : a = 287 ∨ a = 237 ∨ a = 229 ∨ a = 205) (h : CallAt (wpAny m A (call (Value.ref a) xs) Q E s)) : wpAny m A (call (Value.ref a) xs) Q E s := h
local macro_rules | `(tactic| walk_at "α") => `(tactic| exact Mine.sub_cons (by k_mem) (Mine.sub_cons (by k_mem) (Mine.sub_cons (by k_mem) (Mine.sub_cons (by k_mem) (Mine.sub_cons (by k_mem) (Mine.sub_cons (by k_mem) (fun q hq => by (repeat (first | exact hq | exact List.mem_append_left _ hq | refine List.Mem.tail _ ?_)))))))))
local macro_rules | `(tactic| walk_at "call ref") => Mine.ln `Mine.get_token_readU 12 0 false "AaBaCaDaEaFkHsIsJαKsLOGr" none 66 19 "Iabcdefgh U Iij D F"
local macro_rules | `(tactic| walk_at "call ref") => Mine.ln `Mine.hd_make 7 0 false "AaBaCaDaEaFkGr" none 290 11 "Iabcdefghijk Li Mj Mk Hijk D F"
local macro_rules | `(tactic| walk_at "call ref") => Mine.ln `Mine.push_tokenU 12 0 false "AaBaCaDaEaFkJmKmLmHCIOGr" none 73 19 "Iab U Icd D F"
local macro_rules | `(tactic| walk_at "call ref") => Mine.ln `Mine.get_token_popU 12 0 false "AaBaCaDaEaFkJmKmLmHCIOGr" none 66 19 "Iab U Icd D F"
local macro_rules | `(tactic| walk_at "β") => `(tactic| first | assumption | (simp only [Mine.st_len]; omega))
local macro_rules | `(tactic| walk_at "call ref") => Mine.ln `Mine.ws_callW 9 0 false "AaBaCaDaEaFkIβGrHu" none 142 11 "Iabcdefghijklmnopqrstuv Ls Mt Mu Mv D F"
local macro_rules | `(tactic| walk_at "γ") => `(tactic| (rw [sizeLine_eq]; (try simp only [Mine.apS_len]); omega))
local macro_rules | `(tactic| walk_at "binaryOp Add str str") => Mine.ln `PyProof.Rows.add_str 0 1 false "Aγ" none 0 0 "Iab"
local macro_rules | `(tactic| walk_at "exec If") => Mine.ln `Mine.if_stop 0 0 false "" none 0 0 ""
local macro_rules | `(tactic| walk_at "δ") => `(tactic| (refine Mine.WsIn.mono (by assumption) ?_; (refine Mine.sub_cons ?_ (Mine.sub_cons ?_ (Mine.sub_cons ?_ (Mine.sub_cons ?_ Mine.sub_nil)))) <;> k_mem))
local macro_rules | `(tactic| walk_at "call ref") => Mine.ln `Mine.indent_callZ 10 0 false "AaBaCaDaEaFkHδIsJsGr" none 111 11 "Iabcde D F"
local macro_rules | `(tactic| walk_at "eval ListComp") => `(tactic| (k_here; k_dflt (refine Mine.comp_strD (F := by k_asm) (by with_unfolding_all rfl) (by decide) (by rfl) (by decide) (by rfl) ?_)))
local macro_rules | `(tactic| walk_at "call builtin:list.append") => do
  let g := (some (← `(term| wpAny _ _ (call (Value.builtin _) [Value.ref _, _]) _ _ _)))
  Mine.ln `Mine.append_L 4 0 false "AaBaCmDo" g 0 9 "Ia U Ibc D W"
local macro_rules | `(tactic| walk_at "callWith ref") => Mine.ln `callWith_M 4 0 true "AaBaCmDi" none 0 0 ""
local macro_rules | `(tactic| walk_at "callWith ref") => Mine.ln `callWith_K 2 0 true "AaBi" none 0 0 ""
local macro_rules | `(tactic| walk_at "ε") => `(tactic| (simp only [Mine.st_len, List.length_cons]; omega))
local macro_rules | `(tactic| walk_at "subscriptTail Name Constant str int") => Mine.ln `item_str 3 0 false "AdBoCε" none 0 0 "Ia"
local macro_rules | `(tactic| walk_at "call ref") => Mine.ln `Mine.cl_stopA 1 0 false "Ad" none 0 0 ""
section
variable {w : World} {dp un : Nat} {gd : Option (List Code)} {cn : Str} {cs : Scope} {a : Addr} {ccd : Value} {cl : List (Str × Addr)} {outer : List Env} {A₀ : Around} {base h₀ : Heap} {L : Addr} {m mg mb : Str → Option Value} {p : Program} {loose : List Str} {mean : ExcName → Option Value} {s : Shared} {Q E : Value → Shared → Prop} {news : List (Addr × Obj)}
theorem ridden_call {G : LexG} {ln : Int} {t5 : Tok} {svs : List Value} {k pk : Nat} {own : List (Addr × Obj)} {chs : List Nat} {rs : List Road} {size : Nat} {tsz : Tok}
  (B : Below A₀ base outer h₀) (F : Fr h₀ L s.heap m) (X : (Mine.hdm.heap_1 w.params).In h₀) (N : News h₀ L s.heap news) (T₀ : Top p loose mean mg mb h₀) (hk : cs.kind = .function) (hd : dp + 60 < recursionLimit) (hu : un + 200 < cLine)
  (hC : CodeHd h₀ 312 308) (O : LexOk PySem.Challenge.pw_pg0318_02 w (Mine.hdm.heap_1 w.params) p loose mean mg mb G own) (hpb : @LT.lt Nat _ G.sg G.pb ∧ @LT.lt Nat _ G.d G.pb) (hxp : @LT.lt Nat _ G.x G.pb) (hop : ∀ q ∈ own, q.1 ≠ G.pb)
  (hsub : ∀ q ∈ lexLed w.params G ln t5 svs k ((G.pb, W.listOf #[] pk) :: own), q ∈ news) (hsv : SgAre svs chs) (hlen : chs.length ≤ 1000) (hT : Toks G.ws.cps.toList chs (rs.map wordOf)) (hrs : ∀ r ∈ rs, RoadOk r) (hz : rs.length ≤ 8) (hsz : 1 ≤ size ∧ size ≤ 4) (hR : RideOk size rs)
  (ret : ∀ D tl tvs tk ta h' tk' T, Fr h₀ L h' m → Keeps [G.d, G.sg, G.pb] s.heap h' → News h₀ L h' ((D, tup2 (.ref tl) (.str (stOf []) ta)) :: (tl, W.listOf (tvs : List Value).toArray tk) :: T) → All2 (RowE T) tvs (rowsAt size rs 4) → Q (.ref D) {s with heap := h', toks := tk'}) :
  wpAny (model PySem.Challenge.pw_pg0318_02 w) (ktrTop dp un gd cn cs L a ccd cl outer) (call (.ref 318) [.ref G.x, .int (size : Int) tsz]) Q E s := by
  refine wpAny_call ?_
  have hO := O.lt
  have N₁ := News.sub N hsub
  have hC₂ := hC
  kc_enter
  intro g L' h₂ tk₂ cells hgs hgk hgn F₂ N₂ Y₂ B₂ X₂ T₂ l1
  replace hC₂ : CodeHd g 312 308 := hC₂.keeps fun b o e => hgk _ _ (F.keep _ _ e) fun q => by
    obtain ⟨r, hr, rfl⟩ := List.mem_map.mp q
    rw [(N r (hsub r hr)).2.2] at e; cases e
  clear hgs hgn B N₁
  k_lt l1
  obtain ⟨oc, hE, dc⟩ := CellsAre.one Y₂
  subst hE
  clear Y₂
  change oc.data = .cell none at dc
  simp only [List.cons_append, List.nil_append] at N₂
  have ho : OwnOff own [G.d, G.sg, G.pb] := ooX (fun q hq => O.off q hq _ (.head _)) (ooX (fun q hq => O.off q hq _ (.tail _ (.head _))) (ooX hop oo0))
  change Fr g L' h₂ (mput "size" (some (.int (size : Int) tsz)) (mput "lexer" (some (.ref G.x)) mnil)) at F₂
  try dsimp only
  show wpAny _ _ _ _ _ _
  k_fold
  try (refine Mine.set_walk ?_; intro A₉ e₉)
  k_steps
  rename Fr _ _ _ _ => Fn
  rename News _ _ _ _ => Nn
  rename_i rx rd rhl trh hA1 tkA1 lA1 lA2 lA3 _ _ _ _ _ _ _ _ _ hA2 tkA2 tw hA3 tkA3 svs1 k1 ln1 t51 S1 hA4
  have hown := l1.2.2.2.2.2.2
  have hca : @LT.lt Nat _ (L' + 1) rd := lA1.1
  have hoc : ∀ q ∈ own, @LT.lt Nat _ q.1 (L' + 1) := fun q hq => Nat.lt_succ_of_lt (allLt_mem own hown q hq)
  have hpr : @LT.lt Nat _ G.pb rd := lA1.2.2.2.2.2.2.1
  have hsr : @LT.lt Nat _ G.sg rd := lA1.2.2.2.2.2.1
  have hdr : @LT.lt Nat _ G.d rd := lA1.2.2.1
  have hxr : @LT.lt Nat _ G.x rd := lA1.2.1
  have hor := allLt_mem own lA1.2.2.2.2.2.2.2
  have hrx : @LT.lt Nat _ rd rx := lA2
  have hrh : @LT.lt Nat _ rx rhl := lA3
  have hn1 : NeA rhl (L' + 1) := neUp hrx hrh hca
  have hn2 : NeA rhl G.x := neUp hrx hrh hxr
  have hn3 : NeA rhl G.d := neUp hrx hrh hdr
  have hn4 : NeA rhl G.st := neUp hrx hrh lA1.2.2.2.1
  have hn5 : NeA rhl G.sd := neUp hrx hrh lA1.2.2.2.2.1
  have hn6 : NeA rhl G.sg := neUp hrx hrh hsr
  have hn7 : NeA rhl G.pb := neUp hrx hrh hpr
  have hn8 : NeA rhl rd := Nat.ne_of_gt (Nat.lt_trans hrx hrh)
  have hn9 : NeA rhl rx := Nat.ne_of_gt hrh
  obtain ⟨hp1, hp2, hp3, hp4, hp5, hp6, hp7, hp8, hp9, hp10, hp11, hp12, hp13, hp14, hp15⟩ := lexNe hO hxp
  refine' Mine.while_J (fun _ => AJ w.params G own pk rs size tsz (L' + 1) oc rx rd rhl trh) rs.length Fn Nn ?hj ?turn
  case hj => exact AJ.tok (done := []) hT rfl (mext ["word", "roads", "size", "lexer"] ⟨rfl, rfl, rfl, rfl, trivial⟩ (by intro y hy; simp only [Off] at hy; simp [aMap, mput, mnil, hy])) .nil S1 hlen (fun _ h => h) (ooX (fun q hq => ho q hq _ (.head _)) (ooX (fun q hq => ho q hq _ (.tail _ (.head _))) (ooX (fun q hq => ho q hq _ (.tail _ (.tail _ (.head _)))) (ooX (fun q hq => neN (by have := hor q hq; omega)) (ooX (fun q hq => Nat.ne_of_lt (hoc q hq)) oo0)))))
  case turn =>
    rintro n m₁ nx h tk ⟨done, wd, chs', hvs, svs', hk9, k', ln', t5', tw', T, rfl, rfl, hv, hs, hl, hsubT, hofT, hd9⟩ F₃ N₃
    clear Fn Nn
    have hhl : hvs.length = done.length := by rw [hv.length, List.length_map]
    have OT : LexOk PySem.Challenge.pw_pg0318_02 w (Mine.hdm.heap_1 w.params) p loose mean mg mb G T := ⟨O.reads.mono hsubT, hsubT _ O.rf, O.dict, ooX (fun q hq => hofT q hq _ (.head _)) (ooX (fun q hq => hofT q hq _ (.tail _ (.head _))) oo0), O.lt⟩
    rcases hd9 with ⟨r, rest, hrr, rfl, hT', rfl⟩ | ⟨rfl, rfl, rfl, rfl⟩
    · have hne9 : (stOf (wordOf r) != Str.ofString "") = true := by
        rw [bne_iff_ne]; intro e; exact absurd (show (stOf (wordOf r)).cps.toList = [] by rw [e]; rfl) (by simp)
      have hro := hrs r (by rw [hrr]; simp)
      have hdz : done.length ≤ 8 := by rw [hrr, List.length_append] at hz; omega
      have hwl : (stOf (wordOf r)).length ≤ 4 := by have := hro.2.2.2; rw [st_len]; simp only [List.length_cons]; omega
      k_steps
      rename Fr _ _ _ _ => Fn
      rename News _ _ _ _ => Nn
      rw [item_0, sl_1]
      have hvl2 := hro.2.2.2
      unfold Mine.CallAt
      refine wpAny_call ?_
      refine' Mine.hd_add (ps := done.map roHP) (tups := T) ?k1 ?k2 ?k3 ?k4 ?k5 ?kK ?kd ?kl ?kz ?kp ?kt ?ks ?kn ?o1 ?o2 ?o3 ?_
      case k1 => k_asm
      case k2 => exact Fn
      case k3 => k_asm
      case k4 => exact Nn
      case k5 => k_asm
      case kK => first | exact rfl | assumption
      case kd => ktr_room
      case kl => exact ⟨hrx, hrh⟩
      case kz => rw [List.length_map]; omega
      case kp => exact hv
      case kt => exact fun q hq => hofT q hq _ (.tail _ (.tail _ (.tail _ (.head _))))
      case ks => exact (sub_cons (.tail _ (.head _)) (sub_cons (.tail _ (.tail _ (.head _))) (sub_cons (.head _) fun q hq => .tail _ (.tail _ (.tail _ (.tail _ (.tail _ (.tail _ (.tail _ (.tail _ (.tail _ (.tail _ hq))))))))))))
      case kn => rw [st_len]; exact Nat.le_trans (Nat.le_refl 1) (by decide)
      case o1 => exact let_okN hro.1
      case o2 => exact way_okV (List.forall_mem_cons.mpr ⟨.inr hro.2.1, fun c hc => .inl (hro.2.2.1 c hc)⟩)
      case o3 => rw [st_len, List.length_cons]; omega
      intro h9' tk9' vs' k'' tp t' P' o9
      refine' ⟨_, ?u9, ?_⟩
      case u9 => k_upd
      intro F9 N9
      try dsimp only
      have hofT2 : OwnOff ((tp, tup2 (.str (stOf [r.1]) (tk + 1)) (.str (stOf (r.2.1 :: r.2.2.1)) t')) :: T) [G.d, G.sg, G.pb, rhl, L' + 1] := ooC (fa5 (o9 _ (.tail _ (.tail _ (.tail _ (.tail _ (.tail _ (.head _))))))).symm (o9 _ (.tail _ (.tail _ (.tail _ (.tail _ (.tail _ (.tail _ (.tail _ (.tail _ (.head _)))))))))).symm (o9 (G.pb, _) (.tail _ (.tail _ (.tail _ (.tail _ (.tail _ (.tail _ (.tail _ (.tail _ (.tail _ (.head _))))))))))).symm (o9 _ (.head _)).symm (o9 (L' + 1, _) (.tail _ (.tail _ (.tail _ (.head _))))).symm) hofT
      obtain ⟨T2, hT2⟩ : ∃ T2, T2 = (tp, tup2 (.str (stOf [r.1]) (tk + 1)) (.str (stOf (r.2.1 :: r.2.2.1)) t')) :: T := ⟨_, rfl⟩
      have N10 := News.sub N9 (news' := (rhl, W.listOf vs'.toArray k'') :: (rx, instObj 290 rd) :: (rd, hdDict w.params trh rhl) :: (L' + 1, oc) :: lexLed w.params G ln' t5' svs' k' ((G.pb, W.listOf #[] pk) :: T2)) (by
        rw [hT2]; exact (sub_cons (.tail _ (.head _)) (sub_cons (.tail _ (.tail _ (.head _))) (sub_cons (.tail _ (.tail _ (.tail _ (.head _)))) (sub_cons (.tail _ (.tail _ (.tail _ (.tail _ (.head _))))) (sub_cons (.tail _ (.tail _ (.tail _ (.tail _ (.tail _ (.head _)))))) (sub_cons (.tail _ (.tail _ (.tail _ (.tail _ (.tail _ (.tail _ (.head _))))))) (sub_cons (.tail _ (.tail _ (.tail _ (.tail _ (.tail _ (.tail _ (.tail _ (.head _)))))))) (sub_cons (.tail _ (.tail _ (.tail _ (.tail _ (.tail _ (.tail _ (.tail _ (.tail _ (.head _))))))))) (sub_cons (.tail _ (.tail _ (.tail _ (.tail _ (.tail _ (.tail _ (.tail _ (.tail _ (.tail _ (.head _)))))))))) (sub_cons (.tail _ (.tail _ (.tail _ (.tail _ (.tail _ (.tail _ (.tail _ (.tail _ (.tail _ (.tail _ (.head _))))))))))) (sub_cons (.head _) (fun q hq => (.tail _ (.tail _ (.tail _ (.tail _ (.tail _ (.tail _ (.tail _ (.tail _ (.tail _ (.tail _ (.tail _ hq))))))))))))))))))))))))
      rw [← hT2] at hofT2
      have hTT2 : ∀ q ∈ T, q ∈ T2 := fun q hq => by rw [hT2]; exact .tail _ hq
      have hv2 : PairsIn T2 vs' ((done ++ [r]).map roHP) := by rw [hT2, List.map_append]; exact P'
      have OT2 : LexOk PySem.Challenge.pw_pg0318_02 w (Mine.hdm.heap_1 w.params) p loose mean mg mb G T2 := ⟨O.reads.mono fun q hq => hTT2 q (hsubT q hq), hTT2 _ (hsubT _ O.rf), O.dict, ooX (fun q hq => hofT2 q hq _ (.head _)) (ooX (fun q hq => hofT2 q hq _ (.tail _ (.head _))) oo0), O.lt⟩
      clear N9 Nn Fn hT2 OT hofT hv P' o9
      k_steps
      rename Fr _ _ _ _ => Fz
      rename News _ _ _ _ => Nz
      exact WEnd.intro _ rest.length Fz Nz sub_self (Nat.lt_succ_self _) (AJ.tok (done := done ++ [r]) hT' (by rw [hrr, List.append_assoc]; rfl) (mext ["word", "roads", "size", "lexer"] ⟨rfl, rfl, rfl, rfl, trivial⟩ (by intro y hy; simp only [Off] at hy; simp [aMap, mput, mnil, hy])) hv2 (by assumption) hl (fun q hq => hTT2 q (hsubT q hq)) hofT2)
    · have hvA := hv
      have hofA : ∀ q ∈ T, q.1 ≠ rhl := fun q hq => hofT q hq _ (.tail _ (.tail _ (.tail _ (.head _))))
      have hof2 : OwnOff T [L' + 1] := ooX (fun q hq => hofT q hq _ (.tail _ (.tail _ (.tail _ (.tail _ (.head _)))))) oo0
      k_steps
      rename Fr _ _ _ _ => Fn
      rename News _ _ _ _ => Nn
      rename_i bx bd bhl tbh hB1 tkB1 lB1 lB2 lB3 _ _ _ _ _ _ _ _ _ hB2 oc2 dc2
      have hm1 : NeA bhl rhl := neUp lB2 lB3 lB1.1
      have hm2 : NeA bhl rx := neUp lB2 lB3 lB1.2.1
      have hm3 : NeA bhl rd := neUp lB2 lB3 lB1.2.2.1
      have hm4 : NeA bhl (L' + 1) := neUp lB2 lB3 lB1.2.2.2.1
      have hm5 : NeA bhl G.x := neUp lB2 lB3 lB1.2.2.2.2.1
      have hm6 : NeA bhl G.d := neUp lB2 lB3 lB1.2.2.2.2.2.1
      have hm7 : NeA bhl G.st := neUp lB2 lB3 lB1.2.2.2.2.2.2.1
      have hm8 : NeA bhl G.sd := neUp lB2 lB3 lB1.2.2.2.2.2.2.2.1
      have hm9 : NeA bhl G.sg := neUp lB2 lB3 lB1.2.2.2.2.2.2.2.2.1
      have hm10 : NeA bhl G.pb := neUp lB2 lB3 lB1.2.2.2.2.2.2.2.2.2.1
      have hm11 : NeA bhl bd := Nat.ne_of_gt (Nat.lt_trans lB2 lB3)
      have hm12 : NeA bhl bx := Nat.ne_of_gt lB3
      have ha : Str.ofString "a" = stOf [97] := by decide +kernel
      have hla : Let 97 := .inr ⟨Nat.le_refl _, by decide⟩
      have h1n : (1 : Nat) ≤ 100 := by decide
      have hTb := allLt_mem T (‹_ ∧ _ ∧ _ ∧ _ ∧ _ ∧ _ ∧ _ ∧ _ ∧ _ ∧ _ ∧ AllLt bd T›).2.2.2.2.2.2.2.2.2.2
      have hz0 : ([] : List Value).length ≤ 1000 := Nat.zero_le _
      have hob : OwnOff T [bhl] := ooX (fun q hq => Nat.ne_of_lt (Nat.lt_trans (hTb q hq) (Nat.lt_trans lB2 lB3))) oo0
      unfold Mine.CallAt
      refine' Mine.hd_setU (ps := []) (tups := []) ?k1 ?k2 ?k3 ?k4 ?k5 ?kK ?kd ?m1 ?m2 ?m3 ?m4 ?kl ?kz ?kp ?kn ?kt ?ko ?kw ?ka ?kb ?kc ?_
      case k1 => k_asm
      case k2 => exact Fn
      case k3 => k_asm
      case k4 => exact Nn
      case k5 => k_asm
      case kK => first | exact rfl | assumption
      case kd => ktr_room
      case m1 => k_mem
      case m2 => k_mem
      case m3 => k_mem
      case m4 => exact fun _ h => nomatch h
      case kl => exact ⟨lB2, lB3⟩
      case kz => exact Nat.zero_le _
      case kp => exact .nil
      case kn => exact fun _ h => nomatch h
      case kt => exact fun _ h => nomatch h
      case ko => rw [ha]; exact let_okL hla
      case kw => rw [ha]; exact h1n
      case ka => rw [ha]; exact let_okN hla
      case kb => rw [ha]; exact way_okV (List.forall_mem_cons.mpr ⟨.inr hla, fun _ h => nomatch h⟩)
      case kc => rw [ha]; exact Nat.le_trans h1n (by decide)
      intro h9 tk9 bvs bk tp P' o9
      refine' ⟨_, ?u9, ?_⟩
      case u9 => k_upd
      intro F9 N9
      obtain ⟨T1, hT1, N10⟩ := Mine.News.bagA N9
      change News g L' _ ((G.pb, W.listOf ([] : List Value).toArray pk) :: (bhl, W.listOf bvs.toArray bk) :: (G.d, lexDict w.params G.ws ln' G.st G.pb G.t1 G.t2 G.t3 G.t4 t5' G.t6) :: (G.sg, W.listOf svs'.toArray k') :: T1) at N10
      have hx1 : (G.x, instObj 76 G.d) ∈ T1 := by rw [hT1]; exact (.tail _ (.tail _ (.tail _ (.tail _ (.tail _ (.tail _ (.tail _ (.head _))))))))
      have hbx1 : (bx, instObj 290 bd) ∈ T1 := by rw [hT1]; exact (.tail _ (.head _))
      have hbd1 : (bd, hdDict w.params tbh bhl) ∈ T1 := by rw [hT1]; exact (.tail _ (.tail _ (.head _)))
      have hrhl1 : (rhl, W.listOf hvs.toArray hk9) ∈ T1 := by rw [hT1]; exact (.tail _ (.tail _ (.tail _ (.head _))))
      have hrx1 : (rx, instObj 290 rd) ∈ T1 := by rw [hT1]; exact (.tail _ (.tail _ (.tail _ (.tail _ (.head _)))))
      have hrd1 : (rd, hdDict w.params trh rhl) ∈ T1 := by rw [hT1]; exact (.tail _ (.tail _ (.tail _ (.tail _ (.tail _ (.head _))))))
      have hca1 : (L' + 1, oc2) ∈ T1 := by rw [hT1]; exact (.tail _ (.tail _ (.tail _ (.tail _ (.tail _ (.tail _ (.head _)))))))
      have hst1 : (G.st, fnObj (some G.sd) G.fd G.sl) ∈ T1 := by rw [hT1]; exact (.tail _ (.tail _ (.tail _ (.tail _ (.tail _ (.tail _ (.tail _ (.tail _ (.head _)))))))))
      have hsd1 : (G.sd, G.oS) ∈ T1 := by rw [hT1]; exact (.tail _ (.tail _ (.tail _ (.tail _ (.tail _ (.tail _ (.tail _ (.tail _ (.tail _ (.head _))))))))))
      have hT1s : ∀ q ∈ T, q ∈ T1 := by rw [hT1]; exact (fun q hq => (.tail _ (.tail _ (.tail _ (.tail _ (.tail _ (.tail _ (.tail _ (.tail _ (.tail _ (.tail _ hq)))))))))))
      have hb1 : PairsIn T1 bvs (([(97, [97])] : Best).map bHP) := by
        have P'' := PairsIn.mono P' (led' := T1) (by rw [hT1]; exact (sub_cons (.head _) sub_nil))
        rw [ha] at P''; exact P''
      obtain ⟨lb1, lb2, lb3, lb4, lb5, lb6, lb7, lb8, lb9, lb10, lb11⟩ := lB1
      obtain ⟨a1, a2, a3, a4⟩ := id hO
      have hof1 : OwnOff T1 [G.pb, bhl, G.d, G.sg] := by
        rw [hT1]
        have hlo : ∀ r ∈ [G.pb, G.d, G.sg], @LT.lt Nat _ r rd := fa3 hpr hdr hsr
        have hl2 : ∀ r ∈ [G.pb, G.d, G.sg], @LT.lt Nat _ r (L' + 1) := fa3 (Nat.lt_succ_of_lt l1.2.2.2.2.2.1) (Nat.lt_succ_of_lt l1.2.1) (Nat.lt_succ_of_lt l1.2.2.2.2.1)
        have key : ∀ {b : Addr} {o : Obj} {R : List (Addr × Obj)}, (∀ r ∈ [G.pb, G.d, G.sg], b ≠ r) → @Ne Nat b bhl → OwnOff R [G.pb, bhl, G.d, G.sg] → OwnOff ((b, o) :: R) [G.pb, bhl, G.d, G.sg] := fun h1 h2 hR => ooC (fa4 (h1 _ (.head _)) h2 (h1 _ (.tail _ (.head _))) (h1 _ (.tail _ (.tail _ (.head _))))) hR
        refine key (fa3 (o9 (G.pb, _) (.tail _ (.tail _ (.tail _ (.tail _ (.tail _ (.tail _ (.tail _ (.tail _ (.tail _ (.tail _ (.tail _ (.tail _ (.head _)))))))))))))).symm (o9 (G.d, _) (.tail _ (.tail _ (.tail _ (.tail _ (.tail _ (.tail _ (.tail _ (.tail _ (.head _)))))))))).symm (o9 (G.sg, _) (.tail _ (.tail _ (.tail _ (.tail _ (.tail _ (.tail _ (.tail _ (.tail _ (.tail _ (.tail _ (.tail _ (.head _))))))))))))).symm) (o9 _ (.head _)).symm ?_
        refine key (geN hlo (Nat.le_of_lt (Nat.lt_trans lb3 lB2))) hm12.en (key (geN hlo (Nat.le_of_lt lb3)) hm11.en (key (geN hlo (Nat.le_of_lt (Nat.lt_trans hrx hrh))) hm1.en (key (geN hlo (Nat.le_of_lt hrx)) hm2.en (key (geN hlo (Nat.le_refl _)) hm3.en (key (geN hl2 (Nat.le_refl _)) hm4.en (key (fa3 hp15.ne hp13.en hp4.en) hm5.en (key (fa3 hp9.ne hp7.ne hp1.en) hm7.en (key (fa3 hp12.ne hp10.ne hp2.en) hm8.en ?_))))))))
        exact ooX (fun q hq => hofT q hq _ (.tail _ (.tail _ (.head _)))) (ooX (OwnOff.ne hob (.head _)) (ooX (fun q hq => hofT q hq _ (.head _)) (ooX (fun q hq => hofT q hq _ (.tail _ (.head _))) oo0)))
      have hbp : @LT.lt Nat _ G.pb bhl := Nat.lt_trans lb10 (Nat.lt_trans lB2 lB3)
      have hbb : @LT.lt Nat _ bd bx ∧ @LT.lt Nat _ bx bhl := ⟨lB2, lB3⟩
      clear Fn Nn N9 o9 P' hT1 lb1 lb2 lb3 lb4 lb5 lb6 lb7 lb8 lb9 lb10 lb11 hTb hob hn1 hn2 hn3 hn4 hn5 hn6 hn7 hn8 hn9 hp1 hp2 hp3 hp4 hp5 hp6 hp7 hp8 hp9 hp10 hp11 hp12 hp13 hp14 hp15 hm1 hm2 hm3 hm4 hm5 hm6 hm7 hm8 hm9 hm10 hm11 hm12
      try dsimp only
      k_steps
      rename Fr _ _ _ _ => Fn
      rename News _ _ _ _ => Nn
      rename IsRange _ _ _ _ _ _ _ _ => hrg
      rename_i tl _ lT _ _ _ _ _ _ _ _ _
      have lT3 := allLt_mem T1 lT.2.2.2.2
      have Ni := News.sub Nn (news' := (G.pb, W.listOf ([Value.str (Str.ofString "a") _] : List Value).toArray (pk + 1)) :: (bhl, W.listOf bvs.toArray bk) :: (tl, W.listOf ([] : List Value).toArray 0) :: (G.d, lexDict w.params G.ws ln' G.st G.pb G.t1 G.t2 G.t3 G.t4 t5' G.t6) :: (G.sg, W.listOf svs'.toArray k') :: T1) (sub_cons (.tail _ (.head _)) (sub_cons (.tail _ (.tail _ (.head _))) (sub_cons (.head _) (sub_cons (.tail _ (.tail _ (.tail _ (.head _)))) (sub_cons (.tail _ (.tail _ (.tail _ (.tail _ (.head _))))) (fun q hq => (.tail _ (.tail _ (.tail _ (.tail _ (.tail _ hq)))))))))))
      refine' Mine.range_J (TJ G.pb bhl tl G.d G.sg (lexDict w.params G.ws ln' G.st G.pb G.t1 G.t2 G.t3 G.t4 t5' G.t6) (W.listOf svs'.toArray k') T1 (some (.str (stOf []) tw')) rx size tsz G.x rs) ?thh hrg ?ta ?tb Fn Ni ?tj ?tturn ?tdone ?tht
      case thh => rfl
      case tht => intro _ _; rfl
      case ta => omega
      case tb => omega
      case tj =>
        exact ⟨none, none, none, none, none, none, none, none, none, _, [Value.str (Str.ofString "a") _], pk + 1, bvs, bk, [], 0, T1, mext rNames ⟨rfl, rfl, rfl, rfl, rfl, rfl, rfl, rfl, rfl, rfl, rfl, rfl, rfl, rfl, rfl, trivial⟩ (by intro y hy; simp only [Off, rNames] at hy; simp [aMap, rMap, mput, mnil, hy]), rfl, by rw [ha]; exact .cons .nil, hb1, .nil, fun _ h => h, ooX (OwnOff.ne hof1 (.head _)) (ooX (OwnOff.ne hof1 (.tail _ (.head _))) (ooX (fun q hq => Nat.ne_of_lt (lT3 q hq)) (ooX (OwnOff.ne hof1 (.tail _ (.tail _ (.head _)))) (ooX (OwnOff.ne hof1 (.tail _ (.tail _ (.tail _ (.head _))))) oo0))))⟩
      case tdone =>
        rintro m₁ nx h tk ⟨v1, v2, v3, v4, v5, v6, v7, v8, v9, tw5, qvs, qk, bvs, bk, tvs, tkk, T4, rfl, rfl, hq, hb, ht, hs4, hof4⟩ F₃ N₃
        clear Fn Nn Ni
        have hq0 : (ride size rs ((4 : Int) - 0).toNat).2 = [] := hR.fin
        rw [hq0] at hq
        cases hq
        have hx4 := hs4 _ hx1
        have hsubL : ∀ q ∈ lexLed w.params G ln' t5' svs' k' ((G.pb, W.listOf #[] qk) :: own), q ∈ (G.pb, W.listOf ([] : List Value).toArray qk) :: (bhl, W.listOf bvs.toArray bk) :: (tl, W.listOf tvs.toArray tkk) :: (G.d, lexDict w.params G.ws ln' G.st G.pb G.t1 G.t2 G.t3 G.t4 t5' G.t6) :: (G.sg, W.listOf svs'.toArray k') :: T4 := sub_cons (.tail _ (.tail _ (.tail _ (.tail _ (.tail _ hx4))))) (sub_cons (.tail _ (.tail _ (.tail _ (.head _)))) (sub_cons (.tail _ (.tail _ (.tail _ (.tail _ (.tail _ (hs4 _ hst1)))))) (sub_cons (.tail _ (.tail _ (.tail _ (.tail _ (.tail _ (hs4 _ hsd1)))))) (sub_cons (.tail _ (.tail _ (.tail _ (.tail _ (.head _))))) (sub_cons (.head _) fun q hq => .tail _ (.tail _ (.tail _ (.tail _ (.tail _ (hs4 q (hT1s q (hsubT q hq))))))))))))
        k_steps
        dsimp only [List.append_nil]
        refine' Mine.get_token_readU (chs := []) ?k1 ?k2 ?k3 ?k4 ?k5 ?kK ?kd ?kO ?kp ?ks ?kv ?kl ?_
        case k1 => k_asm
        case k2 => k_asm
        case k3 => k_asm
        case k4 => k_asm
        case k5 => k_asm
        case kK => first | exact rfl | assumption
        case kO => exact O
        case kp => exact hpb
        case ks => exact hsubL
        case kv => exact hs
        case kl => exact Nat.zero_le _
        case kd => ktr_room
        intro tk9 h9 tk9' svs9 k9 ln9 t9 S9
        refine' ⟨_, ?u9, ?_⟩
        case u9 => k_upd
        intro F9 N9
        rw [show (lexO G.ws.cps.toList []).1 = [] from by rw [lexO]]
        try dsimp only
        clear hsubL
        k_steps
        rename Fr _ _ _ _ => Fz
        rename News _ _ _ _ => Nz
        obtain ⟨F', K', N'⟩ := leave_S [G.d, G.sg, G.pb] F N hsub hgk Fz Nz (List.forall_mem_cons.mpr ⟨.inl (.tail _ (.tail _ (.tail _ (.tail _ (.tail _ (.tail _ hx4)))))), List.forall_mem_cons.mpr ⟨.inr (.head _), List.forall_mem_cons.mpr ⟨.inl (.tail _ (.tail _ (.tail _ (.tail _ (.tail _ (.tail _ (hs4 _ hst1))))))), List.forall_mem_cons.mpr ⟨.inl (.tail _ (.tail _ (.tail _ (.tail _ (.tail _ (.tail _ (hs4 _ hsd1))))))), List.forall_mem_cons.mpr ⟨.inr (.tail _ (.head _)), List.forall_mem_cons.mpr ⟨.inr (.tail _ (.tail _ (.head _))), fun q hq => .inl (.tail _ (.tail _ (.tail _ (.tail _ (.tail _ (.tail _ (hs4 q (hT1s q (hsubT q hq)))))))))⟩⟩⟩⟩⟩⟩)
        exact ret _ tl tvs tkk _ _ _ T4 F' K' (News.sub N' (sub_cons (.head _) (sub_cons (.tail _ (.tail _ (.tail _ (.head _)))) (fun q hq => (.tail _ (.tail _ (.tail _ (.tail _ (.tail _ (.tail _ hq)))))))))) ht
      case tturn =>
        rintro i u m₁ nx h tk own2 hi hoff ⟨v1, v2, v3, v4, v5, v6, v7, v8, v9, tw5, qvs, qk, bvs, bk, tvs, tkk, T4, rfl, rfl, hq, hb, ht, hs4, hof4⟩ F₃ N₃
        simp only [List.cons_append] at N₃
        clear Fn Nn Ni ret F N hsub hgk
        have hi4 : i < 4 := by omega
        have hG := hR.start i (Nat.le_of_lt hi4)
        have hwz := hG.ql
        k_steps
        rename Fr _ _ _ _ => Fn
        rename News _ _ _ _ => Nn
        rename IsRange _ _ _ _ _ _ _ _ => hr2
        obtain ⟨wt, hwt⟩ : ∃ wt, wt = (ride size rs i).2.length := ⟨_, rfl⟩
        obtain ⟨R, hRd⟩ : ∃ R, R = (tl, W.listOf tvs.toArray tkk) :: (G.d, lexDict w.params G.ws ln' G.st G.pb G.t1 G.t2 G.t3 G.t4 t5' G.t6) :: (G.sg, W.listOf svs'.toArray k') :: own2 := ⟨_, rfl⟩
        have hRo : OwnOff R [G.pb, bhl] := by
          rw [hRd]
          exact ooC (List.forall_mem_cons.mpr ⟨Nat.ne_of_gt lT.1, List.forall_mem_cons.mpr ⟨Nat.ne_of_gt lT.2.1, List.forall_mem_nil _⟩⟩) (ooC (List.forall_mem_cons.mpr ⟨Nat.ne_of_lt hpb.2, List.forall_mem_cons.mpr ⟨Nat.ne_of_lt (Nat.lt_trans hpb.2 hbp), List.forall_mem_nil _⟩⟩) (ooC (List.forall_mem_cons.mpr ⟨Nat.ne_of_lt hpb.1, List.forall_mem_cons.mpr ⟨Nat.ne_of_lt (Nat.lt_trans hpb.1 hbp), List.forall_mem_nil _⟩⟩) (ooN (hoff _ (.head _)) (ooN (hoff _ (.tail _ (.head _))) oo0))))
        have hbag : Bag T4 R [G.pb, bhl] T4 := ⟨fun _ h => h, ooX (OwnOff.ne hof4 (.head _)) (ooX (OwnOff.ne hof4 (.tail _ (.head _))) oo0), fun p hp => by
          rw [hRd]
          exact List.forall_mem_cons.mpr ⟨hof4 p hp _ (.tail _ (.tail _ (.head _))), List.forall_mem_cons.mpr ⟨hof4 p hp _ (.tail _ (.tail _ (.tail _ (.head _)))), List.forall_mem_cons.mpr ⟨hof4 p hp _ (.tail _ (.tail _ (.tail _ (.tail _ (.head _))))), hoff p (.tail _ (.tail _ (.tail _ (.tail _ (.tail _ hp)))))⟩⟩⟩⟩
        have Ni := News.sub Nn (news' := (G.pb, W.listOf qvs.toArray qk) :: (bhl, W.listOf bvs.toArray bk) :: (T4 ++ R)) (by
          refine sub_cons (.head _) (sub_cons (.tail _ (.head _)) fun q hq => ?_)
          rcases List.mem_append.mp hq with hq | hq
          · exact (.tail _ (.tail _ (.tail _ (.tail _ (.tail _ (List.mem_append_left _ hq))))))
          · rw [hRd] at hq
            exact (sub_cons (.tail _ (.tail _ (.head _))) (sub_cons (.tail _ (.tail _ (.tail _ (.head _)))) (sub_cons (.tail _ (.tail _ (.tail _ (.tail _ (.head _))))) (fun q hq => (.tail _ (.tail _ (.tail _ (.tail _ (.tail _ (List.mem_append_right _ hq)))))))))) q hq)
        have hdR : (G.d, lexDict w.params G.ws ln' G.st G.pb G.t1 G.t2 G.t3 G.t4 t5' G.t6) ∈ R := by rw [hRd]; exact (.tail _ (.head _))
        have hpd : @Ne Nat G.pb G.d := Nat.ne_of_gt hpb.2
        rw [← hwt] at Fn hr2 hwz
        refine' Mine.range_J (RJ G.pb bhl R T4 (fun v1 v2 v3 v4 v5 v6 v7 v8 => rMap v1 v2 v3 v4 v5 v6 v7 v8 (some (.int (0 + (i : Int)) u)) tl wt tw5 (some (.str (stOf []) tw')) rx size tsz G.x) (fun n => rideN size rs n (ride size rs i)) (fun n => wt - n)) ?shh hr2 ?sa ?sb Fn Ni ?sj ?sturn ?sdone ?sht
        case shh => rfl
        case sht => intro _ _; rfl
        case sa => omega
        case sb => omega
        case sj => exact ⟨v1, v2, v3, v4, v5, v6, v7, _, qvs, qk, bvs, bk, T4, 0, mext rNames ⟨rfl, rfl, rfl, rfl, rfl, rfl, rfl, rfl, rfl, rfl, rfl, rfl, rfl, rfl, rfl, trivial⟩ (by intro y hy; simp only [Off, rNames] at hy; simp [rMap, mput, mnil, hy]), rfl, hq, hb, hwt.symm, hbag⟩
        case sdone =>
          rintro m₁ nx h2 tk2 ⟨w1, w2, w3, w4, w5, w6, w7, tp2, qvs2, qk2, bvs2, bk2, T, pz, rfl, rfl, hq2, hb2, hz2, bag⟩ F₅ N₅
          clear Fn Nn Ni hr2 hq hb hwz
          have hwe : ((wt : Int) - 0).toNat = wt := by omega
          have hre : rideN size rs wt (ride size rs i) = ride size rs (i + 1) := by rw [hwt]; rfl
          rw [hwe, hre] at hq2 hb2 hz2
          have hpz : pz = (ride size rs (i + 1)).2.length := by omega
          have hG5 := hR.start (i + 1) (by omega)
          have hok5 := hG5.ok
          have hbl5 := hG5.bl
          have hbv5 := hb2.length
          rw [List.length_map] at hbv5
          rw [hRd] at N₅
          have N6 := News.sub N₅ (news' := (G.pb, W.listOf qvs2.toArray qk2) :: (bhl, W.listOf bvs2.toArray bk2) :: (tl, W.listOf tvs.toArray tkk) :: (G.d, lexDict w.params G.ws ln' G.st G.pb G.t1 G.t2 G.t3 G.t4 t5' G.t6) :: (G.sg, W.listOf svs'.toArray k') :: (T ++ own2)) (sub_cons (.head _) (sub_cons (.tail _ (.head _)) (sub_cons (.tail _ (.tail _ (List.mem_append_right _ (.head _)))) (sub_cons (.tail _ (.tail _ (List.mem_append_right _ (.tail _ (.head _))))) (sub_cons (.tail _ (.tail _ (List.mem_append_right _ (.tail _ (.tail _ (.head _)))))) fun q hq => .tail _ (.tail _ ((List.mem_append.mp hq).elim (fun hq => List.mem_append_left _ hq) fun hq => List.mem_append_right _ (.tail _ (.tail _ (.tail _ hq))))))))))
          have hm5 : ∀ q ∈ T1, q ∈ T ++ own2 := fun q hq => List.mem_append_left _ (bag.sub _ (hs4 _ hq))
          have hca5 := hm5 _ hca1
          have hbx5 := hm5 _ hbx1
          have hbd5 := hm5 _ hbd1
          have hpo2 : ∀ q ∈ own2, @Ne Nat G.pb q.1 := hoff _ (.head _)
          have hbo2 : ∀ q ∈ own2, @Ne Nat bhl q.1 := hoff _ (.tail _ (.head _))
          have hto2 : ∀ q ∈ own2, @Ne Nat tl q.1 := hoff _ (.tail _ (.tail _ (.head _)))
          have hRa := bag.own
          rw [hRd] at hRa
          have hoT : OwnOff T [G.pb, bhl, tl, G.d, G.sg] := ooX (OwnOff.ne bag.off (.head _)) (ooX (OwnOff.ne bag.off (.tail _ (.head _))) (ooX (fun q hq => hRa q hq _ (.head _)) (ooX (fun q hq => hRa q hq _ (.tail _ (.head _))) (ooX (fun q hq => hRa q hq _ (.tail _ (.tail _ (.head _)))) oo0))))
          have hoTl : OwnOff (T ++ own2) [tl] := ooA (ooX (OwnOff.ne hoT (.tail _ (.tail _ (.head _)))) oo0) (ooN hto2 oo0)
          have htv : tvs.length ≤ 4 := by rw [ht.length, rowsAt, List.length_map, List.length_range]; omega
          clear N₅ hm5 hRo hbag hRa
          rw [hpz] at F₅
          k_steps
          rename Fr _ _ _ _ => Fn
          rename News _ _ _ _ => Nn
          have habcd : Str.ofString "abcd" = stOf [97, 98, 99, 100] := by decide +kernel
          refine' Mine.srcS_L (fun j ys => All2 OptE ys ((rowAt size rs (i + 1)).take j)) rfl Fn Nn (by decide +kernel) .nil ?step ?fin
          case step =>
            intro i3 ys c3 u9 I oI C oC D m₂ h8 tk8 E' hc hJ hC hx F9 N9 off ne
            clear Fn Nn
            rw [habcd] at hc
            have hc2 : [97, 98, 99, 100][i3]? = some c3 := by simpa using hc
            have hlc : Let c3 := by
              have := List.mem_of_getElem? hc2
              simp only [List.mem_cons, List.not_mem_nil, or_false] at this
              unfold Let; omega
            have hrow : (rowAt size rs (i + 1))[i3]? = some (bget (ride size rs (i + 1)).1 c3) := by rw [rowAt, List.getElem?_map, hc2]; rfl
            k_steps
            rename Fr _ _ _ _ => Fx
            rename News _ _ _ _ => Nx
            unfold Mine.CallAt
            refine' Mine.hd_get (name := stOf [c3]) (ps := (ride size rs (i + 1)).1.map bHP) (tups := T) ?k1 ?k2 ?k3 ?k4 ?k5 ?kK ?kd ?kl ?kz ?kp ?kn ?kt ?ks ?ko ?kw ?_
            case k1 => k_asm
            case k2 => exact Fx
            case k3 => k_asm
            case k4 => exact Nx
            case k5 => k_asm
            case kK => first | exact rfl | assumption
            case kd => ktr_room
            case kl => exact hbb
            case kz => rw [List.length_map]; omega
            case kp => exact hb2
            case kn =>
              intro q hq
              obtain ⟨x, _, rfl⟩ := List.mem_map.mp hq
              rw [st_len]; exact h1n
            case kt => exact OwnOff.ne bag.off (.tail _ (.head _))
            case ks => exact sub_cons (.tail _ (.tail _ (.tail _ (.tail _ (.tail _ (.tail _ (.tail _ (.tail _ hbx5)))))))) (sub_cons (.tail _ (.tail _ (.tail _ (.tail _ (.tail _ (.tail _ (.tail _ (.tail _ hbd5)))))))) (sub_cons (.tail _ (.tail _ (.tail _ (.tail _ (.head _))))) fun q hq => (.tail _ (.tail _ (.tail _ (.tail _ (.tail _ (.tail _ (.tail _ (.tail _ (List.mem_append_left _ hq)))))))))))
            case ko => exact let_okL hlc
            case kw => rw [st_len]; exact h1n
            intro h9 tk9 rv hans F9 N9
            refine CmpEnd.intro _ F9 N9 sub_self off ⟨rfl, ?_⟩
            rw [take_snoc hrow]
            exact hJ.snoc (get_opt hok5 hlc hans)
          case fin =>
            intro g9 ys hJ
            clear Fn Nn
            k_steps
            rename Fr _ _ _ _ => Fz
            rename News _ _ _ _ => Nz
            rename_i D' _ _ oD _
            have oDo := off1_mem oD.2.2.2.2.2
            rw [habcd] at hJ
            have hJ2 : All2 OptE ys (rowAt size rs (i + 1)) := hJ
            have hrows : rowsAt size rs (i + 1) = rowsAt size rs i ++ [rowAt size rs (i + 1)] := by rw [rowsAt, List.range_succ, List.map_append]; rfl
            refine JEnd.intro ((G.pb, W.listOf qvs2.toArray qk2) :: (bhl, W.listOf bvs2.toArray bk2) :: (tl, W.listOf (tvs ++ [Value.ref D']).toArray (tkk + 1)) :: (G.d, lexDict w.params G.ws ln' G.st G.pb G.t1 G.t2 G.t3 G.t4 t5' G.t6) :: (G.sg, W.listOf svs'.toArray k') :: ((D', LCg.lst ys) :: T)) Fz Nz ?e1 ?e2 ?e3 ⟨w1, w2, w3, w4, w5, w6, w7, some (.int ((ride size rs (i + 1)).2.length : Int) tp2), some (.int (0 + (i : Int)) u), tp2, qvs2, qk2, bvs2, bk2, tvs ++ [Value.ref D'], tkk + 1, (D', LCg.lst ys) :: T, ?e4, rfl, hq2, ?e7, ?e5, ?e8, ?e6⟩
            case e1 => exact (sub_cons (.tail _ (.head _)) (sub_cons (.tail _ (.tail _ (.head _))) (sub_cons (.tail _ (.tail _ (.tail _ (.head _)))) (sub_cons (.tail _ (.tail _ (.tail _ (.tail _ (.head _))))) (sub_cons (.tail _ (.tail _ (.tail _ (.tail _ (.tail _ (.head _)))))) (sub_cons (.head _) (fun q hq => (.tail _ (.tail _ (.tail _ (.tail _ (.tail _ (.tail _ (List.mem_append_left _ hq))))))))))))))
            case e2 => exact (fun q hq => (.tail _ (.tail _ (.tail _ (.tail _ (.tail _ (.tail _ (List.mem_append_right _ hq))))))))
            case e3 => exact List.forall_mem_cons.mpr ⟨hpo2, List.forall_mem_cons.mpr ⟨hbo2, List.forall_mem_cons.mpr ⟨hto2, List.forall_mem_cons.mpr ⟨hoff _ (.tail _ (.tail _ (.tail _ (.head _)))), List.forall_mem_cons.mpr ⟨hoff _ (.tail _ (.tail _ (.tail _ (.tail _ (.head _))))), List.forall_mem_cons.mpr ⟨fun q hq => (oDo q (List.mem_append_right _ hq)).symm, fun p hp q hq => bag.own p hp q (by rw [hRd]; exact .tail _ (.tail _ (.tail _ hq)))⟩⟩⟩⟩⟩⟩
            case e7 => exact hb2.mono fun q hq => .tail _ hq
            case e8 => exact fun q hq => .tail _ (bag.sub _ (hs4 q hq))
            case e4 => exact mext rNames ⟨rfl, rfl, rfl, rfl, rfl, rfl, rfl, rfl, rfl, rfl, rfl, rfl, rfl, rfl, rfl, trivial⟩ (by intro y hy; simp only [Off, rNames] at hy; simp [rMap, mput, mnil, hy])
            case e5 =>
              rw [hrows]
              exact (ht.mono (RowE.mono fun q hq => .tail _ (bag.sub _ hq))).snoc ⟨D', ys, _, rfl, .head _, hJ2⟩
            case e6 => exact ooC (fa5 oD.1.symm oD.2.1.symm oD.2.2.1.symm oD.2.2.2.1.symm oD.2.2.2.2.1.symm) hoT
        case sturn =>
          rintro i2 u2 m₁ nx h2 tk2 own3 hi2 hoff2 ⟨w1, w2, w3, w4, w5, w6, w7, tp2, qvs2, qk2, bvs2, bk2, T, pz, rfl, rfl, hq2, hb2, hz2, bag⟩ F₅ N₅
          simp only [List.cons_append, List.append_assoc] at N₅
          clear Fn Nn Ni hr2 hq hb ht hbag hRd
          have hpo3 : ∀ q ∈ own3, @Ne Nat G.pb q.1 := hoff2 _ (.head _)
          have hbo3 : ∀ q ∈ own3, @Ne Nat bhl q.1 := hoff2 _ (.tail _ (.head _))
          try dsimp only at hq2
          try dsimp only at hb2
          try dsimp only at hz2
          obtain ⟨c, q, way, hW⟩ := hR.town i i2 hi4 (by omega)
          rw [hW.eq] at hq2 hz2
          have hG0 := hW.go 0
          rw [List.take_zero] at hG0
          have hql2 := hG0.ql
          have hbl2 := hG0.bl
          try dsimp only [List.foldl_nil] at hql2
          try dsimp only [List.foldl_nil] at hbl2
          have hbv := hb2.length
          rw [List.length_map] at hbv
          cases hq2 with
          | @cons _ tq qvs3 _ hq3 =>
            have hqv := hq3.length
            rw [List.length_map] at hqv
            have hqz : qvs3.length ≤ 1000 := by omega
            have hmT : ∀ q ∈ T1, q ∈ T ++ (R ++ own3) := fun q hq => List.mem_append_left _ (bag.sub _ (hs4 _ hq))
            have hx5 := hmT _ hx1
            have hca5 := hmT _ hca1
            have hbx5 := hmT _ hbx1
            have hbd5 := hmT _ hbd1
            have hrhl5 := hmT _ hrhl1
            have hrx5 := hmT _ hrx1
            have hrd5 := hmT _ hrd1
            have hd5 : (G.d, lexDict w.params G.ws ln' G.st G.pb G.t1 G.t2 G.t3 G.t4 t5' G.t6) ∈ T ++ (R ++ own3) := List.mem_append_right _ (List.mem_append_left _ hdR)
            have hTo : OwnOff (T ++ (R ++ own3)) [G.pb, bhl] := ooA bag.off (ooA hRo (ooN hpo3 (ooN hbo3 oo0)))
            clear hmT
            k_steps
            rename Fr _ _ _ _ => Fn
            rename News _ _ _ _ => Nn
            have hok0 : ∀ q ∈ (rideN size rs i2 (ride size rs i)).1, Let q.1 ∧ WayOk q.2 := hG0.ok
            have hpn0 : ∀ q ∈ ((rideN size rs i2 (ride size rs i)).1.map bHP), q.1.length ≤ 100 := fun q hq => by
              obtain ⟨x, _, rfl⟩ := List.mem_map.mp hq
              rw [st_len]; exact h1n
            have hwl := hW.wk.2.1
            unfold Mine.CallAt
            refine' Mine.hd_get (ps := (rideN size rs i2 (ride size rs i)).1.map bHP) (tups := T) ?k1 ?k2 ?k3 ?k4 ?k5 ?kK ?kd ?kl ?kz ?kp ?kn ?kt ?ks ?ko ?kw ?_
            case k1 => k_asm
            case k2 => exact Fn
            case k3 => k_asm
            case k4 => exact Nn
            case k5 => k_asm
            case kK => first | exact rfl | assumption
            case kd => ktr_room
            case kl => exact hbb
            case kz => rw [List.length_map]; omega
            case kp => exact hb2
            case kn => exact hpn0
            case kt => exact OwnOff.ne bag.off (.tail _ (.head _))
            case ks => exact sub_cons (.tail _ (.tail _ hbx5)) (sub_cons (.tail _ (.tail _ hbd5)) (sub_cons (.tail _ (.head _)) fun q hq => .tail _ (.tail _ (List.mem_append_left _ hq))))
            case ko => exact let_okL hW.lt
            case kw => rw [st_len]; exact h1n
            intro h9 tk9 r hans F9 N9
            have hans2 := get_opt hok0 hW.lt hans
            rw [hW.get] at hans2
            obtain ⟨t0, rfl⟩ := opt_some hans2
            clear Fn Nn hans
            try dsimp only
            k_steps
            rename Fr _ _ _ _ => Fn
            rename News _ _ _ _ => Nn
            have lw := ‹_ ∧ _ ∧ AllLt _ (T ++ (R ++ own3))›
            have lwT := allLt_mem _ lw.2.2
            rw [show (wsOf (stOf way)).1 = (wsL way).1 from rfl] at Fn
            obtain ⟨tc5, tp5, Fc⟩ : ∃ tc tp, Fr g L' _ (rMap w1 w2 w3 (some (.int ((wsL way).1 : Int) tc)) (some (.str (stOf way) t0)) (some (.str (stOf [c]) tq)) (some (.int (0 + (i2 : Int)) u2)) (some (.int (pz : Int) tp)) (some (.int (0 + (i : Int)) u)) tl wt tw5 (some (.str (stOf []) tw')) rx size tsz G.x) := ⟨_, _, Mine.Fr.eq Fn (mext rNames ⟨rfl, rfl, rfl, rfl, rfl, rfl, rfl, rfl, rfl, rfl, rfl, rfl, rfl, rfl, rfl, trivial⟩ (by intro y hy; simp only [Off, rNames] at hy; simp [rMap, mput, mnil, hy]))⟩
            obtain ⟨T5, hT5, N5⟩ := Mine.News.bag4w Nn
            have hB5 : Bag T4 (R ++ own3) [G.pb, bhl] T5 := by
              rw [hT5]
              refine Bag.hi (bag.out fun p hp q hq => hoff2 p (.tail _ (.tail _ (List.mem_append_left _ hp))) q hq) _ ?_ (fun q hq => lwT q (List.mem_append_right _ hq)) (List.forall_mem_cons.mpr ⟨lw.1, List.forall_mem_cons.mpr ⟨lw.2.1, List.forall_mem_nil _⟩⟩)
              exact List.forall_mem_cons.mpr ⟨by dsimp only; omega, List.forall_mem_cons.mpr ⟨by dsimp only; omega, List.forall_mem_cons.mpr ⟨by dsimp only; omega, List.forall_mem_cons.mpr ⟨Nat.le_refl _, List.forall_mem_nil _⟩⟩⟩⟩
            have hT5s : ∀ q ∈ T, q ∈ T5 := fun q hq => by rw [hT5]; exact List.mem_append_right _ hq
            have hb5 := PairsIn.mono hb2 hT5s
            have hrz : (rs.map roHP).length ≤ 1000 := by rw [List.length_map]; omega
            have hm5 : ∀ q ∈ T1, q ∈ T5 ++ (R ++ own3) := fun q hq => List.mem_append_left _ (hB5.sub _ (hs4 _ hq))
            clear Fn Nn hT5
            unfold Mine.CallAt
            refine' Mine.hd_getall (ps := rs.map roHP) ?k1 ?k2 ?k3 ?k4 ?k5 ?kK ?kd ?kl ?kz hvA ?kn ?kt ?ks ?ko ?kw ?_
            case k1 => k_asm
            case k2 => exact Fc
            case k3 => k_asm
            case k4 => exact N5
            case k5 => k_asm
            case kK => first | exact rfl | assumption
            case kd => ktr_room
            case kl => exact ⟨hrx, hrh⟩
            case kz => exact hrz
            case kn =>
              intro q hq
              obtain ⟨x, _, rfl⟩ := List.mem_map.mp hq
              rw [st_len]; exact h1n
            case kt => exact hofA
            case ks => exact sub_cons (.tail _ (.tail _ (hm5 _ hrx1))) (sub_cons (.tail _ (.tail _ (hm5 _ hrd1))) (sub_cons (.tail _ (.tail _ (hm5 _ hrhl1))) fun q hq => .tail _ (.tail _ (hm5 q (hT1s q hq)))))
            case ko => exact let_okL hW.lt
            case kw => rw [st_len]; exact h1n
            intro D h9 tk9 ys ky hys F9 N9 hDo
            rw [getall_eq hrs hW.lt] at hys
            clear Fc N5
            dsimp only
            have hyl : ys.length = (rsOf rs c).length := by rw [hys.length, List.length_map]
            have hrl : (rsOf rs c).length ≤ 8 := Nat.le_trans (List.length_filter_le ..) hz
            refine' Mine.list_J (RJ G.pb bhl (R ++ own3) T5 (fun v1 v2 v3 _ _ _ _ v8 => rMap v1 v2 v3 (some (.int ((wsL way).1 : Int) tc5)) (some (.str (stOf way) t0)) (some (.str (stOf [c]) tq)) (some (.int (0 + (i2 : Int)) u2)) v8 (some (.int (0 + (i : Int)) u)) tl wt tw5 (some (.str (stOf []) tw')) rx size tsz G.x) (fun j => ((rsOf rs c).take j).foldl (rideRoad size way) ((rideN size rs i2 (ride size rs i)).1, q)) (fun _ => wt - (i2 + 1))) ?lhh F9 N9 ?llo ?lj ?lturn ?ldone
            case lhh => rfl
            case llo => exact hDo
            case lj => exact ⟨w1, w2, w3, none, none, none, none, tp5, qvs3, _, bvs2, bk2, T5, pz, rfl, rfl, hq3, hb5, (by show q.length = _; rw [List.length_cons] at hz2; omega), ⟨fun _ h => h, hB5.off, hB5.own⟩⟩
            case ldone =>
              rintro m₁ nx h3 tk3 ⟨x1, x2, x3, x4, x5, x6, x7, tp6, qvs6, qk6, bvs6, bk6, T6, pz6, rfl, rfl, hq6, hb6, hz6, bag6⟩ F₇ N₇
              try dsimp only at hq6
              try dsimp only at hb6
              try dsimp only at hz6
              rw [List.size_toArray, hyl, List.take_length, ← town_step hW] at hq6 hb6 hz6
              clear F9 N9
              k_steps
              rename Fr _ _ _ _ => Fz
              rename News _ _ _ _ => Nz
              refine JEnd.intro ((G.pb, W.listOf qvs6.toArray qk6) :: (bhl, W.listOf bvs6.toArray bk6) :: (((D, W.listOf ys.toArray ky) :: T6) ++ R)) Fz Nz ?_ ?_ ?_ ⟨x1, x2, x3, _, _, _, _, tp6, qvs6, qk6, bvs6, bk6, (D, W.listOf ys.toArray ky) :: T6, pz6, rfl, rfl, hq6, hb6.mono fun q hq => .tail _ hq, hz6, ?_⟩
              · exact sub_cons (.tail _ (.head _)) (sub_cons (.tail _ (.tail _ (.head _))) (sub_cons (.head _) fun q hq => .tail _ (.tail _ (.tail _ ((List.mem_append.mp hq).elim (fun hq => List.mem_append_left _ hq) fun hq => List.mem_append_right _ (List.mem_append_left _ hq))))))
              · exact fun q hq => .tail _ (.tail _ (.tail _ (List.mem_append_right _ (List.mem_append_right _ hq))))
              · exact List.forall_mem_cons.mpr ⟨hpo3, List.forall_mem_cons.mpr ⟨hbo3, List.forall_mem_cons.mpr ⟨fun q hq => (hDo q (.tail _ (.tail _ (List.mem_append_right _ (List.mem_append_right _ hq))))).symm, fun p hp => (List.mem_append.mp hp).elim (fun hp q hq => bag6.own p hp q (List.mem_append_right _ hq)) fun hp => hoff2 p (.tail _ (.tail _ (List.mem_append_right _ hp)))⟩⟩⟩
              · exact Bag.cons (bag6.inn.from hB5.sub) (List.forall_mem_cons.mpr ⟨(hDo _ (.head _)).symm, List.forall_mem_cons.mpr ⟨(hDo _ (.tail _ (.head _))).symm, List.forall_mem_nil _⟩⟩) fun q hq => (hDo q (.tail _ (.tail _ (List.mem_append_right _ (List.mem_append_left _ hq))))).symm
            case lturn =>
              rintro j v m₁ nx h3 tk3 own4 hvj hmem hoff3 ⟨x1, x2, x3, x4, x5, x6, x7, tp6, qvs6, qk6, bvs6, bk6, T6, pz6, rfl, rfl, hq6, hb6, hz6, bag6⟩ F₇ N₇
              simp only [List.cons_append, List.append_assoc] at N₇
              try dsimp only at hq6
              try dsimp only at hb6
              try dsimp only at hz6
              clear F9 N9
              have hpo4 : ∀ q ∈ own4, @Ne Nat G.pb q.1 := hoff3 _ (.head _)
              have hbo4 : ∀ q ∈ own4, @Ne Nat bhl q.1 := hoff3 _ (.tail _ (.head _))
              have hv2 : ys[j]? = some v := by simpa using hvj
              have hj9 : j < (rsOf rs c).length := by rw [← hyl]; exact (List.getElem?_eq_some_iff.mp hv2).1
              obtain ⟨r, hr⟩ : ∃ r, (rsOf rs c)[j]? = some r := ⟨_, List.getElem?_eq_getElem hj9⟩
              obtain ⟨xr, tr, rfl, hxr⟩ := hys.get hv2
              rw [List.getElem?_map, hr] at hxr
              cases hxr
              have hro := hrs r (List.mem_filter.mp (List.mem_of_getElem? hr)).1
              have hst : ((rsOf rs c).take (j + 1)).foldl (rideRoad size way) ((rideN size rs i2 (ride size rs i)).1, q) = rideRoad size way (((rsOf rs c).take j).foldl (rideRoad size way) ((rideN size rs i2 (ride size rs i)).1, q)) r := by
                rw [take_snoc hr, List.foldl_append]; rfl
              have hGj := hW.go j
              have hGk := hW.go (j + 1)
              rw [hst] at hGk
              obtain ⟨st, hst0⟩ : ∃ st, st = ((rsOf rs c).take j).foldl (rideRoad size way) ((rideN size rs i2 (ride size rs i)).1, q) := ⟨_, rfl⟩
              rw [← hst0] at hst hq6 hb6 hz6 hGj hGk
              clear hst0 hvj hv2
              dsimp only
              have hnl := new_len hW.wk hro
              have hs1 : (Txt.slice (stOf way) none (some ((wsL way).1 : Int))).length ≤ 20 := Nat.le_trans (Txt.slice_le _ _ _) (by rw [st_len]; exact hwl)
              have hs2 : (Txt.slice (stOf way) (some ((wsL way).1 : Int)) none).length ≤ 20 := Nat.le_trans (Txt.slice_le _ _ _) (by rw [st_len]; exact hwl)
              have hrl3 : (stOf (r.2.1 :: r.2.2.1)).length ≤ 3 := by have := hro.2.2.2; rw [st_len, List.length_cons]; omega
              have hs3 : (Txt.slice (stOf (r.2.1 :: r.2.2.1)) (some 1) none).length ≤ 3 := Nat.le_trans (Txt.slice_le _ _ _) hrl3
              have hs4' : (Txt.item (stOf (r.2.1 :: r.2.2.1)) 0).length = 1 := rfl
              have hwl2 : (stOf way).length ≤ 20 := by rw [st_len]; exact hwl
              have hm7 : ∀ q ∈ T1, q ∈ T6 ++ (R ++ (own3 ++ own4)) := fun q hq => List.mem_append_left _ (bag6.sub _ (hB5.sub _ (hs4 _ hq)))
              have hx7 := hm7 _ hx1
              have hca7 := hm7 _ hca1
              have hbx7 := hm7 _ hbx1
              have hbd7 := hm7 _ hbd1
              have hd7 : (G.d, lexDict w.params G.ws ln' G.st G.pb G.t1 G.t2 G.t3 G.t4 t5' G.t6) ∈ T6 ++ (R ++ (own3 ++ own4)) := List.mem_append_right _ (List.mem_append_left _ hdR)
              have hTo7 : OwnOff (T6 ++ (R ++ (own3 ++ own4))) [G.pb, bhl] := ooA bag6.off (ooA hRo (ooA (ooN hpo3 (ooN hbo3 oo0)) (ooN hpo4 (ooN hbo4 oo0))))
              have hql7 := hGj.ql
              have hbl7 := hGj.bl
              have hqv7 := hq6.length
              rw [List.length_map] at hqv7
              clear hm7 hx5 hca5 hbx5 hbd5 hrhl5 hrx5 hrd5 hd5 hTo
              k_steps
              rename Fr _ _ _ _ => Fn
              rename News _ _ _ _ => Nn
              rw [sl_1, item_0, new_eq hW.wk] at Fn
              rw [item_0]
              obtain ⟨tn7, tp7, Fc⟩ : ∃ tn tp, Fr g L' _ (rMap x1 (some (.str (stOf (rideNew way r)) tn)) (some (.str (stOf (r.2.1 :: r.2.2.1)) tr)) (some (.int ((wsL way).1 : Int) tc5)) (some (.str (stOf way) t0)) (some (.str (stOf [c]) tq)) (some (.int (0 + (i2 : Int)) u2)) (some (.int (pz6 : Int) tp)) (some (.int (0 + (i : Int)) u)) tl wt tw5 (some (.str (stOf []) tw')) rx size tsz G.x) := ⟨_, _, Mine.Fr.eq Fn (mext rNames ⟨rfl, rfl, rfl, rfl, rfl, rfl, rfl, rfl, rfl, rfl, rfl, rfl, rfl, rfl, rfl, trivial⟩ (by intro y hy; simp only [Off, rNames] at hy; simp [rMap, mput, mnil, hy]))⟩
              clear Fn hs1 hs2 hs3 hs4' hrl3 hwl2
              unfold Mine.CallAt
              refine' Mine.hd_get (ps := st.1.map bHP) (tups := T6) ?k1 ?k2 ?k3 ?k4 ?k5 ?kK ?kd ?kl ?kz ?kp ?kn ?kt ?ks ?ko ?kw ?_
              case k1 => k_asm
              case k2 => exact Fc
              case k3 => k_asm
              case k4 => exact Nn
              case k5 => k_asm
              case kK => first | exact rfl | assumption
              case kd => ktr_room
              case kl => exact hbb
              case kz => rw [List.length_map]; omega
              case kp => exact hb6
              case kn =>
                intro q hq
                obtain ⟨x, _, rfl⟩ := List.mem_map.mp hq
                rw [st_len]; exact h1n
              case kt => exact OwnOff.ne bag6.off (.tail _ (.head _))
              case ks => exact sub_cons (.tail _ (.tail _ hbx7)) (sub_cons (.tail _ (.tail _ hbd7)) (sub_cons (.tail _ (.head _)) fun q hq => .tail _ (.tail _ (List.mem_append_left _ hq))))
              case ko => exact let_okL hro.2.1
              case kw => rw [st_len]; exact h1n
              intro h9 tk9 rv hans F9 N9
              have hans2 := get_opt hGj.ok hro.2.1 hans
              clear Fc Nn hans
              try dsimp only
              k_steps
              rename Fr _ _ _ _ => Fn
              rename News _ _ _ _ => Nn
              obtain ⟨tp8, Fc⟩ : ∃ tp, Fr g L' _ (rMap (some rv) (some (.str (stOf (rideNew way r)) tn7)) (some (.str (stOf (r.2.1 :: r.2.2.1)) tr)) (some (.int ((wsL way).1 : Int) tc5)) (some (.str (stOf way) t0)) (some (.str (stOf [c]) tq)) (some (.int (0 + (i2 : Int)) u2)) (some (.int (pz6 : Int) tp)) (some (.int (0 + (i : Int)) u)) tl wt tw5 (some (.str (stOf []) tw')) rx size tsz G.x) := ⟨_, Mine.Fr.eq Fn (mext rNames ⟨rfl, rfl, rfl, rfl, rfl, rfl, rfl, rfl, rfl, rfl, rfl, rfl, rfl, rfl, rfl, trivial⟩ (by intro y hy; simp only [Off, rNames] at hy; simp [rMap, mput, mnil, hy]))⟩
              clear Fn
              have hB6 : Bag T5 (R ++ (own3 ++ own4)) [G.pb, bhl] T6 := by
                have := bag6.out (V := own4) fun p hp q hq => hoff3 p (.tail _ (.tail _ (List.mem_append_left _ hp))) q hq
                rwa [List.append_assoc] at this
              refine IfAt.test (TCut g L' (rMap (some rv) (some (.str (stOf (rideNew way r)) tn7)) (some (.str (stOf (r.2.1 :: r.2.2.1)) tr)) (some (.int ((wsL way).1 : Int) tc5)) (some (.str (stOf way) t0)) (some (.str (stOf [c]) tq)) (some (.int (0 + (i2 : Int)) u2)) (some (.int (pz6 : Int) tp8)) (some (.int (0 + (i : Int)) u)) tl wt tw5 (some (.str (stOf []) tw')) rx size tsz G.x) (G.pb, W.listOf qvs6.toArray qk6) (bhl, W.listOf bvs6.toArray bk6) (R ++ (own3 ++ own4)) T6 [G.pb, bhl] (better size (rideNew way r) (bget st.1 r.2.1))) ?test ?rest
              case test =>
                have hB7 : Bag T6 (R ++ (own3 ++ own4)) [G.pb, bhl] T6 := ⟨fun _ h => h, hB6.off, hB6.own⟩
                cases hbo : bget st.1 r.2.1 with
                | none =>
                  rw [hbo] at hans2
                  obtain rfl := opt_none hans2
                  k_steps
                  rename Fr _ _ _ _ => Fz
                  rename News _ _ _ _ => Nz
                  exact ⟨_, _, T6, rfl, rfl, Fz, Nz, hB7⟩
                | some old =>
                  rw [hbo] at hans2
                  obtain ⟨to, rfl⟩ := opt_some hans2
                  have hno : (rideNew way r).length ≤ 100 := Nat.le_trans hnl (by decide)
                  have hwo : WayOk old := by
                    unfold bget at hbo
                    obtain ⟨x, hx, rfl⟩ := Option.map_eq_some_iff.mp hbo
                    exact (hGj.ok x (List.mem_of_find?_eq_some hx)).2
                  have hoo : old.length ≤ 100 := Nat.le_trans hwo.2.1 (by decide)
                  have hz1 : (wsOf (stOf (rideNew way r))).2.2.2.length ≤ 101 := (wsL_ok hno).1
                  have hz2' : (wsOf (stOf old)).2.2.2.length ≤ 101 := (wsL_ok hoo).1
                  have hts : 1 ≤ (size : Int) ∧ (size : Int) ≤ 200 := by omega
                  k_steps
                  · rename Fr _ _ _ _ => Fz
                    rename News _ _ _ _ => Nz
                    have lz := ‹_ ∧ _ ∧ AllLt _ (T6 ++ (R ++ (own3 ++ own4)))›
                    refine TCut.hi Fz Nz (decide_eq_true (by assumption)).symm hB7 ?_ lz.2.2 (List.forall_mem_cons.mpr ⟨lz.1, List.forall_mem_cons.mpr ⟨lz.2.1, List.forall_mem_nil _⟩⟩)
                    exact List.forall_mem_cons.mpr ⟨by dsimp only; omega, List.forall_mem_cons.mpr ⟨by dsimp only; omega, List.forall_mem_cons.mpr ⟨by dsimp only; omega, List.forall_mem_cons.mpr ⟨by dsimp only; omega, List.forall_mem_cons.mpr ⟨by dsimp only; omega, List.forall_mem_cons.mpr ⟨by dsimp only; omega, List.forall_mem_cons.mpr ⟨by dsimp only; omega, List.forall_mem_cons.mpr ⟨Nat.le_refl _, List.forall_mem_nil _⟩⟩⟩⟩⟩⟩⟩⟩
                  · rename Fr _ _ _ _ => Fz
                    rename News _ _ _ _ => Nz
                    have lz := ‹_ ∧ _ ∧ AllLt _ (T6 ++ (R ++ (own3 ++ own4)))›
                    refine TCut.hi Fz Nz (decide_eq_false (by assumption)).symm hB7 ?_ lz.2.2 (List.forall_mem_cons.mpr ⟨lz.1, List.forall_mem_cons.mpr ⟨lz.2.1, List.forall_mem_nil _⟩⟩)
                    exact List.forall_mem_cons.mpr ⟨by dsimp only; omega, List.forall_mem_cons.mpr ⟨by dsimp only; omega, List.forall_mem_cons.mpr ⟨by dsimp only; omega, List.forall_mem_cons.mpr ⟨by dsimp only; omega, List.forall_mem_cons.mpr ⟨by dsimp only; omega, List.forall_mem_cons.mpr ⟨by dsimp only; omega, List.forall_mem_cons.mpr ⟨by dsimp only; omega, List.forall_mem_cons.mpr ⟨Nat.le_refl _, List.forall_mem_nil _⟩⟩⟩⟩⟩⟩⟩⟩
              case rest =>
                rintro b s' ⟨h8, tk8, T8, rfl, rfl, F8, N8, hB8⟩
                clear Fc Nn
                have hst9 : rideRoad size way st r = if better size (rideNew way r) (bget st.1 r.2.1) then (bset st.1 r.2.1 (rideNew way r), st.2 ++ [r.2.1]) else st := rfl
                cases hbt : better size (rideNew way r) (bget st.1 r.2.1) with
                | false =>
                  rw [hbt, if_neg (by decide)] at hst9
                  rw [if_neg (by decide)]
                  k_steps
                  rename Fr _ _ _ _ => Fz
                  rename News _ _ _ _ => Nz
                  rw [← List.append_assoc R] at Nz hB8
                  refine' RJ.jend Fz Nz hpo4 hbo4 (fun p hp => hoff3 p (.tail _ (.tail _ (List.mem_append_right _ hp)))) (v4 := none) (v5 := none) (v6 := none) (v7 := none) ?e1 ?e2 ?e3 ?e4 (hB8.from hB6.sub)
                  case e1 => rfl
                  case e2 => rw [hst, hst9]; exact hq6
                  case e3 => rw [hst, hst9]; exact hb6.mono hB8.sub
                  case e4 => rw [hst, hst9]; exact hz6
                | true =>
                  rw [hbt, if_pos rfl] at hst9
                  rw [hst9] at hGk
                  rw [if_pos rfl]
                  have hm8 : ∀ q ∈ T1, q ∈ T8 ++ (R ++ (own3 ++ own4)) := fun q hq => List.mem_append_left _ (hB8.sub _ (hB6.sub _ (hB5.sub _ (hs4 _ hq))))
                  have hx8 := hm8 _ hx1
                  have hca8 := hm8 _ hca1
                  have hbx8 := hm8 _ hbx1
                  have hbd8 := hm8 _ hbd1
                  have hTo8 : OwnOff (T8 ++ (R ++ (own3 ++ own4))) [G.pb, bhl] := ooA hB8.off (ooA hRo (ooA (ooN hpo3 (ooN hbo3 oo0)) (ooN hpo4 (ooN hbo4 oo0))))
                  have hrl3 : (stOf (r.2.1 :: r.2.2.1)).length ≤ 3 := by have := hro.2.2.2; rw [st_len, List.length_cons]; omega
                  have hqz6 : qvs6.length ≤ 1000 := by omega
                  clear hm8 hx7 hca7 hbx7 hbd7 hTo7
                  k_steps
                  rename Fr _ _ _ _ => Fn
                  rename News _ _ _ _ => Nn
                  rw [item_0]
                  unfold Mine.CallAt
                  refine' Mine.hd_setU (ps := st.1.map bHP) (tups := T8) ?k1 ?k2 ?k3 ?k4 ?k5 ?kK ?kd ?m1 ?m2 ?m3 ?m4 ?kl ?kz ?kp ?kn ?kt ?ko ?kw ?ka ?kb ?kc ?_
                  case k1 => k_asm
                  case k2 => exact Fn
                  case k3 => k_asm
                  case k4 => exact Nn
                  case k5 => k_asm
                  case kK => first | exact rfl | assumption
                  case kd => ktr_room
                  case m1 => exact .tail _ (.tail _ hbx8)
                  case m2 => exact .tail _ (.tail _ hbd8)
                  case m3 => exact .tail _ (.head _)
                  case m4 => exact fun q hq => .tail _ (.tail _ (List.mem_append_left _ hq))
                  case kl => exact hbb
                  case kz => rw [List.length_map]; omega
                  case kp => exact hb6.mono hB8.sub
                  case kn =>
                    intro q hq
                    obtain ⟨x, _, rfl⟩ := List.mem_map.mp hq
                    rw [st_len]; exact h1n
                  case kt => exact OwnOff.ne hB8.off (.tail _ (.head _))
                  case ko => exact let_okL hro.2.1
                  case kw => rw [st_len]; exact h1n
                  case ka => exact let_okN hro.2.1
                  case kb => exact way_okV (new_ok hW.wk hro)
                  case kc => rw [st_len]; exact Nat.le_trans hnl (by decide)
                  intro h9 tk9 bvs9 bk9 tp9 P9 o9
                  refine' ⟨_, ?u9, ?_⟩
                  case u9 => k_upd
                  intro F9 N9
                  rw [set_eq hGj.ok hro.2.1] at P9
                  obtain ⟨T9, hT9, N10⟩ := Mine.News.bag1w N9
                  rw [← hT9] at P9
                  have hB9 : Bag T6 (R ++ (own3 ++ own4)) [G.pb, bhl] T9 := by
                    rw [hT9]
                    exact hB8.cons (List.forall_mem_cons.mpr ⟨(o9 _ (.head _)).symm, List.forall_mem_cons.mpr ⟨(o9 _ (.tail _ (.head _))).symm, List.forall_mem_nil _⟩⟩) fun q hq => (o9 q (.tail _ (.tail _ (List.mem_append_right _ hq)))).symm
                  have hm8 : ∀ q ∈ T1, q ∈ T9 ++ (R ++ (own3 ++ own4)) := fun q hq => List.mem_append_left _ (hB9.sub _ (hB6.sub _ (hB5.sub _ (hs4 _ hq))))
                  have hx9 := hm8 _ hx1
                  have hd9 : (G.d, lexDict w.params G.ws ln' G.st G.pb G.t1 G.t2 G.t3 G.t4 t5' G.t6) ∈ T9 ++ (R ++ (own3 ++ own4)) := List.mem_append_right _ (List.mem_append_left _ hdR)
                  have hTo9 : OwnOff (T9 ++ (R ++ (own3 ++ own4))) [G.pb, bhl] := ooA hB9.off (ooA hRo (ooA (ooN hpo3 (ooN hbo3 oo0)) (ooN hpo4 (ooN hbo4 oo0))))
                  clear hm8 Fn Nn N9 o9 hT9 hx8 hca8 hbx8 hbd8 hTo8 hd7
                  try dsimp only
                  k_steps
                  rename Fr _ _ _ _ => Fz
                  rename News _ _ _ _ => Nz
                  rw [item_0] at Nz
                  rw [← List.append_assoc R] at Nz hB9
                  refine' RJ.jend (pz := pz6 + 1) Fz Nz hpo4 hbo4 (fun p hp => hoff3 p (.tail _ (.tail _ (List.mem_append_right _ hp)))) (v1 := some rv) (v4 := none) (v5 := none) (v6 := none) (v7 := none) ?e1 ?e2 ?e3 ?e4 (hB9.from hB6.sub)
                  case e1 => exact mext rNames ⟨rfl, rfl, rfl, rfl, rfl, rfl, rfl, rfl, rfl, rfl, rfl, rfl, rfl, rfl, rfl, trivial⟩ (by intro y hy; simp only [Off, rNames] at hy; simp [rMap, mput, mnil, hy])
                  case e2 => rw [hst, hst9, List.map_append]; exact hq6.snoc
                  case e3 => rw [hst, hst9]; exact P9
                  case e4 => rw [hst, hst9, List.length_append, List.length_singleton, hz6]; exact Nat.add_assoc _ _ _
end
end Mine

theorem Mine.tt_p_hours : True := by w_top off; exact trivial
namespace Mine
-- U-WHOLE
-- LAW 02: _law_hours
abbrev Hrs := List (Option Nat)
def placeOf (c : Nat) : Nat := lowC c - 97
def hrRoad (size : Nat) (hours : Hrs) (after : Hrs) (r : Road) : Hrs :=
  match hours.getD (placeOf r.1) none with
  | none => after
  | some e => match after.getD (placeOf r.2.1) none with
    | none => after.set (placeOf r.2.1) (some (colGo size r.2.2.1 e))
    | some a => if colGo size r.2.2.1 e < a then after.set (placeOf r.2.1) (some (colGo size r.2.2.1 e)) else after
def hrAt (size : Nat) (rs : List Road) : Nat → Hrs
  | 0 => [some 0, none, none, none]
  | k + 1 => rs.foldl (hrRoad size (hrAt size rs k)) (hrAt size rs k)
inductive OptI (v : Value) : Option Nat → Prop where
  | none : v = .none → OptI v none
  | some (n : Nat) (t : Tok) : v = .int (n : Int) t → OptI v (some n)
inductive HrE (led : List (Addr × Obj)) (v : Value) (row : Hrs) : Prop where
  | mk t us k (h0 : v = .ref t) (h1 : (t, W.listOf (us : List Value).toArray k) ∈ led) (h2 : All2 OptI us row) : HrE led v row
theorem HrE.mono {led led' : List (Addr × Obj)} (k : ∀ p ∈ led, p ∈ led') (v : Value) (r : Hrs) (h : HrE led v r) : HrE led' v r := by
  obtain ⟨t, us, n, e, h1, h2⟩ := h
  exact ⟨t, us, n, e, k _ h1, h2⟩
abbrev hoMap (v1 v2 v3 v4 v5 v6 v7 v8 v9 : Option Value) (tb ha : Addr) (size : Nat) (tsz : Tok) (ld : Addr) : Str → Option Value :=
  mput "late" v1 (mput "place" v2 (mput "early" v3 (mput "bare" v4 (mput "piece" v5 (mput "end" v6 (mput "begin" v7 (mput "after" v8 (mput "turn" v9 (mput "tables" (some (.ref tb)) (mput "hours" (some (.ref ha)) (mput "size" (some (.int (size : Int) tsz)) (mput "roads" (some (.ref ld)) mnil))))))))))))
def hNames : List Str := ["late", "place", "early", "bare", "piece", "end", "begin", "after", "turn", "tables", "hours", "size", "roads"]
inductive HoJ (tb ld : Addr) (lE : Obj) (tl : List (Addr × Obj)) (size : Nat) (tsz : Tok) (rs : List Road) (i : Nat) (m₁ : Str → Option Value) (nx : List (Addr × Obj)) : Prop where
  | mk v1 v2 v3 v4 v5 v6 v7 v8 v9 ha hvs hk tvs tk T (h0 : m₁ = hoMap v1 v2 v3 v4 v5 v6 v7 v8 v9 tb ha size tsz ld) (h1 : nx = (tb, W.listOf (tvs : List Value).toArray tk) :: (ld, lE) :: T)
    (hh : (ha, W.listOf (hvs : List Value).toArray hk) ∈ T) (hv : All2 OptI hvs (hrAt size rs i)) (ht : All2 (HrE T) tvs ((List.range i).map fun i => hrAt size rs (i + 1))) (sub : ∀ q ∈ tl, q ∈ T) (off : OwnOff T [tb, ld]) : HoJ tb ld lE tl size tsz rs i m₁ nx
theorem ix_dec : ((List.range 4).all fun i => Builtin.Str.occurrences (Str.ofString "abcd") (stOf [97 + i]) 0 (Str.ofString "abcd").length 1 == [i]) = true := by decide +kernel
theorem ix_at {c : Nat} (h : Let c) : Builtin.Str.occurrences (Str.ofString "abcd") (stOf [lowC c]) 0 (Str.ofString "abcd").length 1 = [placeOf c] := by
  have := (let_ok h).2.2.2.2
  have h2 := beq_iff_eq.mp (List.all_eq_true.mp ix_dec (placeOf c) (List.mem_range.mpr (by unfold placeOf; omega)))
  rwa [show 97 + placeOf c = lowC c by unfold placeOf; omega] at h2
theorem hrRoad_len {size : Nat} {hours after : Hrs} {r : Road} : (hrRoad size hours after r).length = after.length := by
  unfold hrRoad
  split
  · rfl
  · split
    · exact List.length_set ..
    · split
      · exact List.length_set ..
      · rfl
theorem hrFold_len {size : Nat} {hours : Hrs} : ∀ (rs : List Road) (after : Hrs), (rs.foldl (hrRoad size hours) after).length = after.length
  | [], _ => rfl
  | r :: rs, after => (hrFold_len rs (hrRoad size hours after r)).trans hrRoad_len
theorem hrAt_len {size : Nat} {rs : List Road} : ∀ k, (hrAt size rs k).length = 4
  | 0 => rfl
  | k + 1 => (hrFold_len rs _).trans (hrAt_len k)
theorem col_le {size : Nat} (hs : size ≤ 4) : ∀ (l : List Nat) (c : Nat), colGo size l c ≤ c + 4 * l.length
  | [], c => Nat.le_add_right ..
  | x :: l, c => by
    have hd : c / size * size ≤ c := Nat.div_mul_le_self _ _
    rw [colGo, List.length_cons]
    split
    · have := col_le hs l (c + 1); omega
    · have := col_le hs l (c / size * size + size); omega
theorem hrRoad_le {size b : Nat} (hs : size ≤ 4) {hours after : Hrs} {r : Road} (hr : RoadOk r) (h : ∀ n, some n ∈ hours → n ≤ b) (ha : ∀ n, some n ∈ after → n ≤ b + 8) : ∀ n, some n ∈ hrRoad size hours after r → n ≤ b + 8 := by
  intro n hn
  have key : ∀ e, hours.getD (placeOf r.1) none = some e → colGo size r.2.2.1 e ≤ b + 8 := fun e he => by
    rw [List.getD_eq_getElem?_getD] at he
    cases hg : hours[placeOf r.1]? with
    | none => rw [hg] at he; cases he
    | some x =>
      rw [hg] at he
      have := h e (List.mem_of_getElem? (hg.trans (congrArg some he)))
      have h2 := col_le hs r.2.2.1 e
      have h3 := hr.2.2.2
      omega
  unfold hrRoad at hn
  split at hn
  · exact ha n hn
  · next e he =>
    split at hn
    · rcases List.mem_or_eq_of_mem_set hn with hn | hn
      · exact ha n hn
      · cases hn; exact key e he
    · split at hn
      · rcases List.mem_or_eq_of_mem_set hn with hn | hn
        · exact ha n hn
        · cases hn; exact key e he
      · exact ha n hn
theorem hrFold_le {size b : Nat} (hs : size ≤ 4) {hours : Hrs} (h : ∀ n, some n ∈ hours → n ≤ b) : ∀ (rs : List Road) (after : Hrs), (∀ r ∈ rs, RoadOk r) → (∀ n, some n ∈ after → n ≤ b + 8) → ∀ n, some n ∈ rs.foldl (hrRoad size hours) after → n ≤ b + 8
  | [], _, _, ha => ha
  | r :: rs, after, hr, ha => hrFold_le hs h rs _ (fun x hx => hr x (.tail _ hx)) (hrRoad_le hs (hr r (.head _)) h ha)
theorem hrAt_le {size : Nat} (hs : size ≤ 4) {rs : List Road} (hr : ∀ r ∈ rs, RoadOk r) : ∀ k, ∀ n, some n ∈ hrAt size rs k → n ≤ 8 * k
  | 0, n, h => by
    simp only [hrAt, List.mem_cons, List.not_mem_nil, or_false, Option.some.injEq, reduceCtorEq] at h
    omega
  | k + 1, n, h => by
    have := hrFold_le hs (hrAt_le hs hr k) rs _ hr (fun n h => Nat.le_trans (hrAt_le hs hr k n h) (Nat.le_add_right ..)) n h
    omega
section
variable {prog : Program} {w : World} {A : Around} {E : Value → Shared → Prop} {s : Shared} {h₀ : Heap} {L : Addr} {m : Str → Option Value} {news : List (Addr × Obj)}
theorem setAt_L {l : Addr} {vs : List Value} {k i : Nat} {x : Value} {t : Tok} {Q : Unit → Shared → Prop} (F : Fr h₀ L s.heap m) (N : News h₀ L s.heap news) (hm : (l, W.listOf vs.toArray k) ∈ news) (hi : i < vs.length) (hz : vs.length ≤ 1000)
    (h : ∀ h', ∃ news', UpdS [(l, W.listOf (vs.set i x).toArray k)] news news' ∧ (Fr h₀ L h' m → News h₀ L h' news' → Q () {s with heap := h'})) : wpAny (model prog w) A (setItem (.ref l) (.int (i : Int) t) x) Q E s := by
  have z := N _ hm
  refine ki_setAt z.1 (Int.natCast_nonneg _) (by omega) (by rw [List.size_toArray]; omega) ?_
  obtain ⟨news', u, q⟩ := h (s.heap.update l (Obj.mapSeq (·.setIfInBounds (i : Int).toNat x)))
  refine q (Fr.change F (Heap.SameBut.update ..) z.2.1 z.2.2) (News.updS u N (fun b o e n => (Heap.SameBut.update ..).extBut b o (fun q => n (by rw [q]; exact .head _)) e) fun p hp => ?_)
  rw [List.mem_singleton.mp hp]
  refine ⟨?_, z.2⟩
  have e := PySem.IsL.update z.1 (·.setIfInBounds (i : Int).toNat x)
  have e2 : vs.toArray.setIfInBounds (i : Int).toNat x = (vs.set i x).toArray := by
    apply Array.toList_inj.mp
    simp
  rw [e2] at e
  rw [e]
  simp
end
inductive HiJ (mm : Option Value → Option Value → Option Value → Option Value → Option Value → Option Value → Option Value → Str → Option Value) (af : Addr) (U : List (Addr × Obj)) (S : Nat → Hrs) (j : Nat) (m₁ : Str → Option Value) (nx : List (Addr × Obj)) : Prop where
  | mk v1 v2 v3 v4 v5 v6 v7 avs ak (h0 : m₁ = mm v1 v2 v3 v4 v5 v6 v7) (h1 : nx = (af, W.listOf (avs : List Value).toArray ak) :: U) (hv : All2 OptI avs (S j)) : HiJ mm af U S j m₁ nx
theorem HiJ.fin {g h' : Heap} {L : Addr} {m' : Str → Option Value} {mm : Option Value → Option Value → Option Value → Option Value → Option Value → Option Value → Option Value → Str → Option Value} {af : Addr} {U own : List (Addr × Obj)} {S : Nat → Hrs} {j ak tk' : Nat} {avs : List Value} {v1 v2 v3 v4 v5 v6 v7 : Option Value} {s : Shared} (F : Fr g L h' m') (N : News g L h' ((af, W.listOf avs.toArray ak) :: (U ++ own))) (hU : ∀ p ∈ U, ∀ q ∈ own, p.1 ≠ q.1) (ha : ∀ q ∈ own, @Ne Nat af q.1) (hm : m' = mm v1 v2 v3 v4 v5 v6 v7) (hv : All2 OptI avs (S j)) : JEnd g L (HiJ mm af U S j) own s {s with heap := h', toks := tk'} :=
  JEnd.intro ((af, W.listOf avs.toArray ak) :: U) F N (sub_cons (.head _) fun q hq => .tail _ (List.mem_append_left _ hq)) (fun q hq => .tail _ (List.mem_append_right _ hq)) (List.forall_mem_cons.mpr ⟨ha, hU⟩) ⟨v1, v2, v3, v4, v5, v6, v7, avs, ak, hm, rfl, hv⟩
theorem All2.set {α β : Type} {R : α → β → Prop} {as : List α} {bs : List β} {a : α} {b : β} (h : All2 R as bs) (k : R a b) : ∀ i, All2 R (as.set i a) (bs.set i b) := by
  induction h with
  | nil => exact fun _ => .nil
  | cons h1 h2 ih =>
    intro i
    cases i with
    | zero => exact .cons k h2
    | succ i => exact .cons h1 (ih i)
local macro_rules | `(tactic| walk_at "α") => `(tactic| (simp only [List.toList_toArray]; rw [sizeLine_eq]; omega))
local macro_rules | `(tactic| walk_at "call type:list") => do
  let g := (some (← `(term| wpAny _ _ (call (Value.type _) [Value.ref _]) _ _ _)))
  Mine.ln `kup_listOf 4 1 false "AaBaCmDfEα" g 0 0 "Iabcdef Lf W"
local macro_rules | `(tactic| walk_at "call builtin:str.lower") => `(tactic| (k_here; k_dflt (refine KXw.lower (Mine.let_ok (by assumption)).1 (by rw [(Mine.let_ok (by assumption)).1]; rfl) ?_); intro _ _))
local macro_rules | `(tactic| walk_at "call builtin:str.index") => `(tactic| (k_here; k_dflt (refine PySem.SC.index (Mine.ix_at (by assumption)) ?_)))
local macro_rules | `(tactic| walk_at "exec For Tuple Name cons nil") => `(tactic| walk_at "forJ")
local macro_rules | `(tactic| walk_at "subscriptTail Name Call ref int") => Mine.ln `Mine.item_L 5 0 true "AaBmCoDoEs" none 0 0 ""
local macro_rules | `(tactic| walk_at "subscriptTail Name Name ref int") => Mine.ln `Mine.item_L 5 0 true "AaBmCoDoEs" none 0 0 ""
local macro_rules | `(tactic| walk_at "call ref") => Mine.ln `Mine.later_call 10 0 false "AaBaCaDaEaFkGrHsIsJs" none 325 1 "Iabcde D F"
local macro_rules | `(tactic| walk_at "setItem ref int") => Mine.ln `Mine.setAt_L 5 0 false "AaBaCmDsEs" none 0 9 "Ia U Ibc D W"
local macro_rules | `(tactic| walk_at "call builtin:list.append") => do
  let g := (some (← `(term| wpAny _ _ (call (Value.builtin _) [Value.ref _, _]) _ _ _)))
  Mine.ln `Mine.append_L 4 0 false "AaBaCmDo" g 0 9 "Ia U Ibc D W"
local macro_rules | `(tactic| walk_at "exec If") => Mine.ln `Mine.if_stop 0 0 false "" none 0 0 ""
section
variable {w : World} {dp un : Nat} {gd : Option (List Code)} {cn : Str} {cs : Scope} {a : Addr} {ccd : Value} {cl : List (Str × Addr)} {outer : List Env} {A₀ : Around} {base h₀ : Heap} {L : Addr} {m mg mb : Str → Option Value} {p : Program} {loose : List Str} {mean : ExcName → Option Value} {s : Shared} {Q E : Value → Shared → Prop} {news : List (Addr × Obj)}
theorem hours_call {ld : Addr} {lvs : List Value} {kl : Nat} {tl : List (Addr × Obj)} {rs : List Road} {size : Nat} {tsz : Tok} (B : Below A₀ base outer h₀) (F : Fr h₀ L s.heap m) (X : (Mine.hdm.heap_1 w.params).In h₀) (N : News h₀ L s.heap news) (T : Top p loose mean mg mb h₀) (hk : cs.kind = .function) (hd : dp + 15 < recursionLimit)
  (hsub : ∀ q ∈ (ld, W.listOf lvs.toArray kl) :: tl, q ∈ news) (hof : OwnOff tl [ld]) (hin : All2 (RoE tl) lvs rs) (hz : rs.length ≤ 8) (hrs : ∀ r ∈ rs, RoadOk r) (hsz : 1 ≤ size ∧ size ≤ 4)
  (ret : ∀ D vs k' T h' tk', Fr h₀ L h' m → News h₀ L h' ((D, W.listOf (vs : List Value).toArray k') :: (T ++ news)) → All2 (HrE T) vs ((List.range 4).map fun i => hrAt size rs (i + 1)) → Q (.ref D) {s with heap := h', toks := tk'}) :
  wpAny (model PySem.Challenge.pw_pg0318_02 w) (ktrTop dp un gd cn cs L a ccd cl outer) (call (.ref 332) [.ref ld, .int (size : Int) tsz]) Q E s := by
  refine wpAny_call ?_
  have N₁ := News.sub N hsub
  ktr_enter
  intro g L' h₂ hgs hgk hgn F₂ N₂ B₂ X₂ T₂
  clear hgs hgn B N₁
  change Fr g L' h₂ (mput "size" (some (.int (size : Int) tsz)) (mput "roads" (some (.ref ld)) mnil)) at F₂
  try dsimp only
  show wpAny _ _ _ _ _ _
  k_fold
  try (refine Mine.set_walk ?_; intro A₉ e₉)
  k_steps
  rename Fr _ _ _ _ => Fn
  rename News _ _ _ _ => Nn
  rename IsRange _ _ _ _ _ _ _ _ => hrg
  rename_i ha0 _ lh _ tb _ lt _ _ _ _ _ _ _ _ _
  refine' Mine.range_J (HoJ tb ld (W.listOf lvs.toArray kl) tl size tsz rs) ?hh hrg ?ha ?hb Fn (News.sub Nn (sub_cons (.head _) (sub_cons (.tail _ (.tail _ (.head _))) (sub_cons (.tail _ (.head _)) fun q hq => .tail _ (.tail _ (.tail _ hq)))))) ?hj ?turn ?done ?ht
  case hh => rfl
  case ht => intro _ _; rfl
  case ha => omega
  case hb => omega
  case hj =>
    exact ⟨none, none, none, none, none, none, none, none, none, ha0, [.int 0 _, .none, .none, .none], 0, [], 0, _, mext hNames ⟨rfl, rfl, rfl, rfl, rfl, rfl, rfl, rfl, rfl, rfl, rfl, rfl, rfl, trivial⟩ (by intro y hy; simp only [Off, hNames] at hy; simp [hoMap, mput, mnil, hy]), rfl, .head _, .cons (.some 0 _ rfl) (.cons (.none rfl) (.cons (.none rfl) (.cons (.none rfl) .nil))), .nil, fun q hq => .tail _ hq, ooC (List.forall_mem_cons.mpr ⟨Nat.ne_of_lt lt.1, List.forall_mem_cons.mpr ⟨Nat.ne_of_gt lh.1, List.forall_mem_nil _⟩⟩) (ooX (fun q hq => Nat.ne_of_lt (allLt_mem _ lt.2.2 q hq)) hof)⟩
  case done =>
    rintro m₁ nx h tk ⟨v1, v2, v3, v4, v5, v6, v7, v8, v9, ha, hvs, hk, tvs, tkk, T, rfl, rfl, hh, hv, ht, hs, hf⟩ F₃ N₃
    clear Fn Nn
    k_steps
    rename Fr _ _ _ _ => Fz
    rename News _ _ _ _ => Nz
    obtain ⟨F', N'⟩ := leave_ro F N hsub hgk Fz Nz (List.forall_mem_cons.mpr ⟨.tail _ (.head _), fun q hq => .tail _ (.tail _ (hs q hq))⟩)
    obtain ⟨_, N'', _⟩ := leave F (News.sub N hsub) hgk Fz Nz
    exact ret tb tvs tkk T _ _ F' (List.forall_mem_cons.mpr ⟨N'' _ (.head _), fun q hq => (List.mem_append.mp hq).elim (fun hq => N'' q (.tail _ (.tail _ hq))) (N' q)⟩) ht
  case turn =>
    rintro i u m₁ nx h tk own hi hoff ⟨v1, v2, v3, v4, v5, v6, v7, v8, v9, ha, hvs, hk, tvs, tkk, T, rfl, rfl, hh, hv, ht, hs, hf⟩ F₃ N₃
    simp only [List.cons_append] at N₃
    clear Fn Nn
    have hh2 := List.mem_append_left own hh
    have hvl := hv.length
    rw [hrAt_len] at hvl
    k_steps
    rename Fr _ _ _ _ => Fn
    rename News _ _ _ _ => Nn
    rename_i af ak _ lf _
    have lf2 := allLt_mem _ lf.2.2
    have hsz' : 1 ≤ size ∧ size ≤ 10 := ⟨hsz.1, Nat.le_trans hsz.2 (by decide)⟩
    obtain ⟨U, hU⟩ : ∃ U, U = (tb, W.listOf tvs.toArray tkk) :: (T ++ own) := ⟨_, rfl⟩
    have Ni := News.sub Nn (news' := (ld, W.listOf lvs.toArray kl) :: (af, W.listOf hvs.toArray ak) :: U) (by rw [hU]; exact (sub_cons (.tail _ (.tail _ (.head _))) (sub_cons (.head _) (sub_cons (.tail _ (.head _)) (fun q hq => (.tail _ (.tail _ (.tail _ hq))))))))
    have hhU : (ha, W.listOf hvs.toArray hk) ∈ U := by rw [hU]; exact .tail _ hh2
    have htU : ∀ q ∈ tl, q ∈ U := fun q hq => by rw [hU]; exact .tail _ (List.mem_append_left _ (hs q hq))
    have hUa : OwnOff U [af] := by
      rw [hU]
      exact ooC (List.forall_mem_cons.mpr ⟨Nat.ne_of_lt lf.1, List.forall_mem_nil _⟩) (ooX (fun q hq => Nat.ne_of_lt (lf2 q hq)) oo0)
    have hUl : ∀ q ∈ U, q.1 ≠ ld := by
      rw [hU]
      exact List.forall_mem_cons.mpr ⟨Nat.ne_of_gt lt.2.1, fun q hq => (List.mem_append.mp hq).elim (fun hq => hf q hq _ (.tail _ (.head _))) fun hq => (hoff _ (.tail _ (.head _)) q hq).symm⟩
    obtain ⟨hi_, hhi⟩ : ∃ hi_, hi_ = hrAt size rs i := ⟨_, rfl⟩
    have hil : hi_.length = 4 := by rw [hhi]; exact hrAt_len i
    have hile : ∀ n, some n ∈ hi_ → n ≤ 1000 := fun n hn => by
      rw [hhi] at hn
      have := hrAt_le hsz.2 hrs i n hn
      omega
    rw [← hhi] at hv
    have hSl : ∀ j, ((rs.take j).foldl (hrRoad size hi_) hi_).length = 4 := fun j => (hrFold_len _ _).trans hil
    have hTt : OwnOff (T ++ own) [tb] := ooA (ooX (OwnOff.ne hf (.head _)) oo0) (ooN (hoff _ (.head _)) oo0)
    have htv : tvs.length ≤ 4 := by rw [ht.length, List.length_map, List.length_range]; omega
    clear Nn hh hh2 ret F N hsub hgk
    refine' Mine.list_J (HiJ (fun v1 v2 v3 v4 v5 v6 v7 => hoMap v1 v2 v3 v4 v5 v6 v7 (some (.ref af)) (some (.int (0 + (i : Int)) u)) tb ha size tsz ld) af U (fun j => (rs.take j).foldl (hrRoad size hi_) hi_)) ?ihh Fn Ni ?ihlo ?ihj ?iturn ?idone
    case ihh => rfl
    case ihlo => exact List.forall_mem_cons.mpr ⟨Nat.ne_of_gt lf.2.1, hUl⟩
    case ihj => exact ⟨v1, v2, v3, v4, v5, v6, v7, hvs, ak, mext hNames ⟨rfl, rfl, rfl, rfl, rfl, rfl, rfl, rfl, rfl, rfl, rfl, rfl, rfl, trivial⟩ (by intro y hy; simp only [Off, hNames] at hy; simp [hoMap, mput, mnil, hy]), rfl, hv⟩
    case idone =>
      rintro m₁ nx h9 tk9 ⟨x1, x2, x3, x4, x5, x6, x7, avs, ak9, rfl, rfl, hav⟩ F₇ N₇
      clear Fn Ni
      rw [List.size_toArray, hin.length, List.take_length] at hav
      have hav2 : All2 OptI avs (hrAt size rs (i + 1)) := by rw [hhi] at hav; exact hav
      rw [hU] at N₇
      k_steps
      rename Fr _ _ _ _ => Fz
      rename News _ _ _ _ => Nz
      try rw [List.push_toArray] at Nz
      refine JEnd.intro ((tb, W.listOf (tvs ++ [Value.ref af]).toArray (tkk + 1)) :: (ld, W.listOf lvs.toArray kl) :: ((af, W.listOf avs.toArray ak9) :: T)) Fz Nz ?e1 ?e2 ?e3 ⟨x1, x2, x3, x4, x5, x6, x7, some (.ref af), some (.int (0 + (i : Int)) u), af, avs, ak9, tvs ++ [Value.ref af], tkk + 1, (af, W.listOf avs.toArray ak9) :: T, ?e4, rfl, .head _, hav2, ?e5, fun q hq => .tail _ (hs q hq), ?e6⟩
      case e1 => exact (sub_cons (.tail _ (.tail _ (.head _))) (sub_cons (.head _) (sub_cons (.tail _ (.head _)) (fun q hq => (.tail _ (.tail _ (.tail _ (List.mem_append_left _ hq))))))))
      case e2 => exact (fun q hq => (.tail _ (.tail _ (.tail _ (List.mem_append_right _ hq)))))
      case e3 => exact List.forall_mem_cons.mpr ⟨hoff (tb, W.listOf tvs.toArray tkk) (.head _), List.forall_mem_cons.mpr ⟨hoff _ (.tail _ (.head _)), List.forall_mem_cons.mpr ⟨fun q hq => Nat.ne_of_gt (lf2 q (List.mem_append_right _ hq)), fun p hp => hoff p (.tail _ (.tail _ hp))⟩⟩⟩
      case e4 => exact mext hNames ⟨rfl, rfl, rfl, rfl, rfl, rfl, rfl, rfl, rfl, rfl, rfl, rfl, rfl, trivial⟩ (by intro y hy; simp only [Off, hNames] at hy; simp [hoMap, mput, mnil, hy])
      case e5 =>
        rw [List.range_succ, List.map_append]
        exact (ht.mono (HrE.mono fun q hq => .tail _ hq)).snoc ⟨af, avs, ak9, rfl, .head _, hav2⟩
      case e6 => exact ooC (List.forall_mem_cons.mpr ⟨Nat.ne_of_gt lf.1, List.forall_mem_cons.mpr ⟨Nat.ne_of_gt lf.2.1, List.forall_mem_nil _⟩⟩) hf
    case iturn =>
      rintro j v m₁ nx h9 tk9 own4 hvj hmem hoff3 ⟨x1, x2, x3, x4, x5, x6, x7, avs, ak9, rfl, rfl, hav⟩ F₇ N₇
      simp only [List.cons_append] at N₇
      clear Fn Ni
      have hv2 : lvs[j]? = some v := by simpa using hvj
      have hj9 : j < rs.length := by rw [← hin.length]; exact (List.getElem?_eq_some_iff.mp hv2).1
      obtain ⟨r, hr⟩ : ∃ r, rs[j]? = some r := ⟨_, List.getElem?_eq_getElem hj9⟩
      obtain ⟨v', hv3, t9, ta, tb9, tc, td, rfl, hm9⟩ := hin.get hr
      obtain rfl : v = .ref t9 := Option.some.inj (hv2.symm.trans hv3)
      have hro := hrs r (List.mem_of_getElem? hr)
      have hl1 := hro.1
      have hl2 := hro.2.1
      have hm8 : (t9, tup4 (.str (stOf [r.1]) ta) (.str (stOf [r.2.1]) tb9) (.str (stOf r.2.2.1) tc) (.int (r.2.2.2 : Int) td)) ∈ U ++ own4 := List.mem_append_left _ (htU _ hm9)
      have hh8 : (ha, W.listOf hvs.toArray hk) ∈ U ++ own4 := List.mem_append_left _ hhU
      have hUx : ∀ p ∈ U, ∀ q ∈ own4, p.1 ≠ q.1 := fun p hp => hoff3 p (.tail _ hp)
      have hUo : OwnOff (U ++ own4) [af] := ooA hUa (ooN (hoff3 _ (.head _)) oo0)
      have hst : (rs.take (j + 1)).foldl (hrRoad size hi_) hi_ = hrRoad size hi_ ((rs.take j).foldl (hrRoad size hi_) hi_) r := by rw [take_snoc hr, List.foldl_append]; rfl
      have hSj := hSl j
      have haj : All2 OptI avs ((rs.take j).foldl (hrRoad size hi_) hi_) := hav
      obtain ⟨st, hst0⟩ : ∃ st, st = (rs.take j).foldl (hrRoad size hi_) hi_ := ⟨_, rfl⟩
      rw [← hst0] at hst haj hSj
      have hpb : placeOf r.1 < 4 := by have := (let_ok hl1).2.2.2.2; unfold placeOf; omega
      have hpe : placeOf r.2.1 < 4 := by have := (let_ok hl2).2.2.2.2; unfold placeOf; omega
      obtain ⟨eb, heb⟩ : ∃ eb, hi_[placeOf r.1]? = some eb := ⟨_, List.getElem?_eq_getElem (by omega)⟩
      obtain ⟨ea, hea⟩ : ∃ ea, st[placeOf r.2.1]? = some ea := ⟨_, List.getElem?_eq_getElem (by omega)⟩
      obtain ⟨vb, hvb, hob⟩ := hv.get heb
      obtain ⟨va, hva, hoa⟩ := haj.get hea
      have hvb' : hvs[((placeOf r.1 : Nat) : Int).toNat]? = some vb := hvb
      have hva' : avs[((placeOf r.2.1 : Nat) : Int).toNat]? = some va := hva
      have hal : placeOf r.2.1 < avs.length := by rw [haj.length, hSj]; exact hpe
      have haz : avs.length ≤ 1000 := by rw [haj.length, hSj]; decide
      have hpl : (stOf r.2.2.1).length ≤ 10 := by have := hro.2.2.2; rw [st_len]; omega
      have hrd1 : hi_.getD (placeOf r.1) none = eb := by rw [List.getD_eq_getElem?_getD, heb]; rfl
      have hrd2 : st.getD (placeOf r.2.1) none = ea := by rw [List.getD_eq_getElem?_getD, hea]; rfl
      clear hvj hv2 hv3 hvb hva hst0 hav
      k_steps
      refine IfAt.go ?_
      cases hob with
      | none e1 =>
        subst e1
        k_steps
        rename Fr _ _ _ _ => Fz
        rename News _ _ _ _ => Nz
        exact HiJ.fin Fz Nz hUx (hoff3 _ (.head _)) (v1 := x1) (v2 := some (.int ((placeOf r.2.1 : Nat) : Int) _)) (v3 := some .none) (v4 := some (.int (r.2.2.2 : Int) td)) (v5 := some (.str (stOf r.2.2.1) tc)) (v6 := some (.str (stOf [r.2.1]) tb9)) (v7 := some (.str (stOf [r.1]) ta)) (mext hNames ⟨rfl, rfl, rfl, rfl, rfl, rfl, rfl, rfl, rfl, rfl, rfl, rfl, rfl, trivial⟩ (by intro y hy; simp only [Off, hNames] at hy; simp [hoMap, mput, mnil, hy])) (by rw [hst, hrRoad, hrd1]; exact haj)
      | some e te e1 =>
        subst e1
        have hez : e ≤ 1000 := hile e (List.mem_of_getElem? heb)
        k_steps
        refine IfAt.go ?_
        cases hoa with
        | none e2 =>
          subst e2
          k_steps
          rename Fr _ _ _ _ => Fz
          rename News _ _ _ _ => Nz
          exact HiJ.fin Fz Nz hUx (hoff3 _ (.head _)) (v1 := some (.int _ _)) (v2 := some (.int ((placeOf r.2.1 : Nat) : Int) _)) (v3 := some (.int (e : Int) te)) (v4 := some (.int (r.2.2.2 : Int) td)) (v5 := some (.str (stOf r.2.2.1) tc)) (v6 := some (.str (stOf [r.2.1]) tb9)) (v7 := some (.str (stOf [r.1]) ta)) (mext hNames ⟨rfl, rfl, rfl, rfl, rfl, rfl, rfl, rfl, rfl, rfl, rfl, rfl, rfl, trivial⟩ (by intro y hy; simp only [Off, hNames] at hy; simp [hoMap, mput, mnil, hy])) (by rw [hst, hrRoad, hrd1]; dsimp only; rw [hrd2]; exact haj.set (.some _ _ rfl) _)
        | some a ta2 e2 =>
          subst e2
          k_steps
          · have hlt := ‹((colGo size (stOf r.2.2.1).cps.toList e : Nat) : Int) < (a : Int)›
            rename Fr _ _ _ _ => Fz
            rename News _ _ _ _ => Nz
            exact HiJ.fin Fz Nz hUx (hoff3 _ (.head _)) (v1 := some (.int _ _)) (v2 := some (.int ((placeOf r.2.1 : Nat) : Int) _)) (v3 := some (.int (e : Int) te)) (v4 := some (.int (r.2.2.2 : Int) td)) (v5 := some (.str (stOf r.2.2.1) tc)) (v6 := some (.str (stOf [r.2.1]) tb9)) (v7 := some (.str (stOf [r.1]) ta)) (mext hNames ⟨rfl, rfl, rfl, rfl, rfl, rfl, rfl, rfl, rfl, rfl, rfl, rfl, rfl, trivial⟩ (by intro y hy; simp only [Off, hNames] at hy; simp [hoMap, mput, mnil, hy])) (by rw [hst, hrRoad, hrd1]; dsimp only; rw [hrd2]; dsimp only; rw [if_pos (Int.ofNat_lt.mp hlt)]; exact haj.set (.some _ _ rfl) _)
          · have hlt : ¬ ((colGo size (stOf r.2.2.1).cps.toList e : Nat) : Int) < (a : Int) := by assumption
            rename Fr _ _ _ _ => Fz
            rename News _ _ _ _ => Nz
            exact HiJ.fin Fz Nz hUx (hoff3 _ (.head _)) (v1 := some (.int _ _)) (v2 := some (.int ((placeOf r.2.1 : Nat) : Int) _)) (v3 := some (.int (e : Int) te)) (v4 := some (.int (r.2.2.2 : Int) td)) (v5 := some (.str (stOf r.2.2.1) tc)) (v6 := some (.str (stOf [r.2.1]) tb9)) (v7 := some (.str (stOf [r.1]) ta)) (mext hNames ⟨rfl, rfl, rfl, rfl, rfl, rfl, rfl, rfl, rfl, rfl, rfl, rfl, rfl, trivial⟩ (by intro y hy; simp only [Off, hNames] at hy; simp [hoMap, mput, mnil, hy])) (by rw [hst, hrRoad, hrd1]; dsimp only; rw [hrd2]; dsimp only; rw [if_neg fun h => hlt (Int.ofNat_lt.mpr h)]; exact haj)
end
end Mine

theorem Mine.tt_p_pl2a : True := by w_top off; exact trivial
namespace Mine
-- LAW 02, plain: the level of a way is its column
theorem grow_getD (cns : List Int) (b j : Nat) : (wsGrow cns b).getD j 0 = cns.getD j 0 := by
  unfold wsGrow
  split
  · rw [List.getD_eq_getElem?_getD, List.getD_eq_getElem?_getD, List.getElem?_append]
    split
    · rfl
    · next h =>
      rw [List.getElem?_eq_none (Nat.not_lt.mp h), List.getElem?_replicate]
      split <;> rfl
  · rfl
theorem bump_getD (cns : List Int) (b j : Nat) : (wsBump cns b).getD j 0 = cns.getD j 0 + if j = b then 1 else 0 := by
  have hl := (wsGrow_length (cns := cns) (b := b)).2
  rw [wsBump, List.getD_eq_getElem?_getD, List.getElem?_set]
  by_cases h : b = j
  · subst h
    rw [if_pos rfl, if_pos hl, if_pos rfl, ← grow_getD cns b b]; rfl
  · rw [if_neg h, if_neg (fun e => h e.symm), Int.add_zero, ← grow_getD cns b j, List.getD_eq_getElem?_getD]
theorem il_ext {cns : List Int} {ts k n : Nat} (h : cns.length ≤ ts + k) : wsIl cns ts (k + n) = wsIl cns ts k := by
  induction n with
  | zero => rfl
  | succ n ih =>
    rw [← Nat.add_assoc, wsIl, ih, List.getD_eq_getElem?_getD, List.getElem?_eq_none (by omega)]
    simp
theorem il_len {cns : List Int} {ts k : Nat} (h : cns.length ≤ ts + k) : wsIl cns ts k = wsIl cns ts (cns.length - ts) := by
  have : k = (cns.length - ts) + (k - (cns.length - ts)) := by omega
  rw [this, il_ext (by omega)]
theorem il_bump (cns : List Int) (b ts : Nat) : ∀ k, wsIl (wsBump cns b) ts k = wsIl cns ts k + if ts ≤ b ∧ b < ts + k then ((b / ts : Nat) : Int) else 0
  | 0 => by rw [wsIl, wsIl, if_neg (by omega)]; rfl
  | k + 1 => by
    rw [wsIl, wsIl, il_bump cns b ts k, bump_getD]
    by_cases h : ts + k = b
    · subst h
      rw [if_pos rfl, if_neg (by omega), if_pos (by omega), Int.mul_add, Int.mul_one, Int.fdiv_eq_ediv_of_nonneg _ (Int.natCast_nonneg _)]
      rw [show ((ts : Int) + (k : Int)) / (ts : Int) = (((ts + k) / ts : Nat) : Int) from rfl]
      omega
    · rw [if_neg h, Int.add_zero]
      by_cases h2 : ts ≤ b ∧ b < ts + k
      · rw [if_pos h2, if_pos (by omega)]; omega
      · rw [if_neg h2, if_neg (by omega)]; omega
theorem lev_go {ts : Nat} (ht : 1 ≤ ts) : ∀ (l : List Nat) (n b nt : Nat) (cns : List Int) (c : Nat), Blanks l → wsLevel (n, b, nt, cns) ts = (c : Int) → wsLevel (wsGo l n b nt cns) ts = (colGo ts l c : Int)
  | [], _, _, _, _, _, _, h => h
  | x :: l, n, b, nt, cns, c, hb, h => by
    have hl : Blanks l := fun y hy => hb y (.tail _ hy)
    rw [wsGo, colGo]
    rcases hb x (.head _) with rfl | rfl
    · rw [if_pos rfl, if_pos rfl]
      refine lev_go ht l _ _ _ _ _ hl ?_
      unfold wsLevel at h ⊢
      dsimp only at h ⊢
      omega
    · rw [if_neg (by decide), if_pos rfl, if_neg (by decide)]
      refine lev_go ht l _ _ _ _ _ hl ?_
      unfold wsLevel at h ⊢
      dsimp only at h ⊢
      have hg := wsGrow_length (cns := cns) (b := b)
      have hbl : (wsBump cns b).length ≤ max cns.length (b + 1) := wsBump_length
      have hbe : (wsBump cns b).length = (wsGrow cns b).length := List.length_set ..
      have e1 : wsIl (wsBump cns b) ts ((wsBump cns b).length - ts) = wsIl cns ts (cns.length - ts) + ((b / ts : Nat) : Int) := by
        rw [← il_len (cns := wsBump cns b) (k := max cns.length (b + 1)) (by omega), il_bump, il_len (cns := cns) (k := max cns.length (b + 1)) (by omega)]
        by_cases hb2 : ts ≤ b
        · rw [if_pos ⟨hb2, by omega⟩]
        · rw [if_neg (fun h => hb2 h.1), Nat.div_eq_of_lt (Nat.not_le.mp hb2)]; rfl
      rw [e1]
      generalize wsIl cns ts (cns.length - ts) = I at h ⊢
      have hpos : (0 : Int) < (ts : Int) := by omega
      have hc : ((c / ts * ts + ts : Nat) : Int) = (c : Int) / (ts : Int) * (ts : Int) + (ts : Int) := by rw [Int.natCast_add, Int.natCast_mul, Int.natCast_ediv]
      rw [hc, ← h, Int.add_mul_ediv_left _ _ (Int.ne_of_gt hpos), Int.natCast_ediv]
      generalize (b : Int) / (ts : Int) = q
      rw [Int.natCast_add, Int.mul_add, Int.mul_add, Int.mul_add, Int.mul_comm (q + (I + (nt : Int))), Int.mul_add, Int.mul_add]
      have h1 : (ts : Int) * ((1 : Nat) : Int) = (ts : Int) := by simp
      have h0 : ((0 : Nat) : Int) = 0 := rfl
      omega
theorem lev_blank {ts : Nat} (ht : 1 ≤ ts) {l : List Nat} (h : Blanks l) : lev ts l = (colGo ts l 0 : Int) := by
  refine lev_go ht l 0 0 0 [] 0 h ?_
  unfold wsLevel
  simp [wsIl]
end Mine

theorem Mine.tt_p_pl2b : True := by w_top off; exact trivial
namespace Mine
-- LAW 02, plain: the roads are as the walks want them; the words read
abbrev wsN : List Nat := [10, 9, 13, 32]
theorem piece_dec : ((List.range 6).all fun i => decide ((∀ x ∈ pieceAt i, x = 32 ∨ x = 9) ∧ (pieceAt i).length ≤ 2)) = true := by decide +kernel
theorem road_ok (x : Nat) : RoadOk (roadOf x) := by
  have hp := of_decide_eq_true (List.all_eq_true.mp piece_dec (x / 16 % 6) (List.mem_range.mpr (Nat.mod_lt _ (by decide))))
  refine ⟨?_, ?_, hp.1, hp.2⟩
  · show Let (rdB x)
    unfold rdB Let; split <;> omega
  · show Let (rdE x)
    unfold rdE Let; split <;> omega
theorem roads_ok {sc : List Int} : ∀ r ∈ lawRoads sc, RoadOk r := fun r hr => by
  obtain ⟨n, _, rfl⟩ := List.mem_map.mp hr
  exact road_ok _
theorem roads_len (sc : List Int) : (lawRoads sc).length ≤ 8 := by
  rw [lawRoads, List.length_map]; simp only [List.length_cons, List.length_take]; omega
theorem text_len : ∀ rs : List Road, (∀ r ∈ rs, RoadOk r) → (textGo rs).length ≤ 7 * rs.length
  | [], _ => Nat.le_refl _
  | r :: rs, h => by
    have h1 := text_len rs fun x hx => h x (.tail _ hx)
    have h2 := wordT_len (q := r) (h r (.head _)).2.2.2
    rw [textGo, List.length_append, List.length_cons]; omega
theorem lexQ_piece {l : List Nat} (h : Blanks l) (rest : List Nat) : ∀ acc, lexQ (l ++ 34 :: rest) acc = (acc ++ l, rest) := by
  induction l with
  | nil =>
    intro acc
    rw [List.nil_append, List.append_nil, lexQ_q]
  | cons x r ih =>
    intro acc
    have hx := h x (.head _)
    rw [List.cons_append, lexQ_o (by omega) (by omega), ih (fun y hy => h y (.tail _ hy)), List.append_assoc]; rfl
theorem lexB_piece (l : List Nat) (rest : List Nat) : ∀ acc, lexB wsN ((l.flatMap fun c => [92, c]) ++ 10 :: rest) acc = (acc ++ l, rest) := by
  induction l with
  | nil =>
    intro acc
    rw [List.append_nil]
    show lexB wsN (10 :: rest) acc = _
    rw [lexB_w (by decide)]
  | cons x r ih =>
    intro acc
    show lexB wsN (92 :: x :: ((r.flatMap fun c => [92, c]) ++ 10 :: rest)) acc = _
    rw [lexB_e (by decide), List.tail_cons, List.take_succ_cons, List.take_zero, ih, List.append_assoc]; rfl
theorem let_no {c : Nat} (h : Let c) : c ∉ wsN ∧ c ≠ 34 ∧ c ≠ 92 := by
  unfold Let at h
  refine ⟨?_, by omega, by omega⟩
  simp only [List.mem_cons, List.not_mem_nil, or_false]; omega
theorem lexO_word {r : Road} (h : RoadOk r) (rest : List Nat) : lexO wsN (wordT r ++ rest) = (wordOf r, rest) := by
  obtain ⟨b, e, p, k⟩ := r
  obtain ⟨h1, h2, h3, _⟩ := h
  obtain ⟨b1, b2, b3⟩ := let_no h1
  obtain ⟨e1, e2, e3⟩ := let_no h2
  dsimp only at b1 b2 b3 e1 e2 e3 h3
  unfold wordT
  split
  · show lexO wsN (b :: e :: ((p.flatMap fun c => [92, c]) ++ [10]) ++ rest) = _
    rw [show b :: e :: ((p.flatMap fun c => [92, c]) ++ [10]) ++ rest = b :: e :: ((p.flatMap fun c => [92, c]) ++ 10 :: rest) by simp]
    rw [lexO_o b1 b2 b3, lexB_o e1 e3, lexB_piece]; rfl
  · rw [show 34 :: (b, e, p, k).1 :: (b, e, p, k).2.1 :: (b, e, p, k).2.2.1 ++ [34] ++ rest = 34 :: b :: e :: (p ++ 34 :: rest) by simp]
    rw [lexO_q (by decide), lexQ_o b2 b3, lexQ_o e2 e3, lexQ_piece h3]; rfl
theorem toks_text : ∀ rs : List Road, (∀ r ∈ rs, RoadOk r) → Toks wsN (textGo rs) (rs.map wordOf)
  | [], _ => .nil rfl
  | r :: rs, h => .cons (lexO_word (h r (.head _)) (textGo rs)) (by simp) (toks_text rs fun x hx => h x (.tail _ hx))
end Mine

theorem Mine.tt_p_pl2c : True := by w_top off; exact trivial
namespace Mine
-- LAW 02, plain: ways as lists of roads
def pcs (ρ : List Road) : List Nat := ρ.flatMap fun r => r.2.2.1
def strW (ρ : List Road) : List Nat := pcs ρ ++ 97 :: ρ.map fun r => r.2.1
def timeW (size : Nat) (ρ : List Road) : Nat := colGo size (pcs ρ) 0
inductive Way (rs : List Road) : List Road → Nat → Prop where
  | nil : Way rs [] 97
  | snoc {ρ : List Road} {t : Nat} {r : Road} : Way rs ρ t → r ∈ rs → lowC r.1 = t → Way rs (ρ ++ [r]) (lowC r.2.1)
theorem col_app (s : Nat) : ∀ (l l' : List Nat) (c : Nat), colGo s (l ++ l') c = colGo s l' (colGo s l c)
  | [], _, _ => rfl
  | x :: l, l', c => by
    rw [List.cons_append, colGo, colGo]
    split
    · exact col_app s l l' _
    · exact col_app s l l' _
theorem col_mono {s : Nat} : ∀ (l : List Nat) {c c' : Nat}, c ≤ c' → colGo s l c ≤ colGo s l c'
  | [], _, _, h => h
  | x :: l, c, c', h => by
    rw [colGo, colGo]
    split
    · exact col_mono l (Nat.succ_le_succ h)
    · exact col_mono l (Nat.add_le_add_right (Nat.mul_le_mul_right _ (Nat.div_le_div_right h)) _)
theorem col_ge {s : Nat} (hs : 1 ≤ s) : ∀ (l : List Nat) (c : Nat), c ≤ colGo s l c
  | [], c => Nat.le_refl _
  | x :: l, c => by
    rw [colGo]
    split
    · exact Nat.le_trans (Nat.le_succ _) (col_ge hs l _)
    · have h1 := Nat.div_add_mod c s
      have h2 := Nat.mod_lt c hs
      rw [Nat.mul_comm] at h1
      exact Nat.le_trans (by omega) (col_ge hs l _)
theorem pcs_snoc (ρ : List Road) (r : Road) : pcs (ρ ++ [r]) = pcs ρ ++ r.2.2.1 := by
  rw [pcs, List.flatMap_append, List.flatMap_cons, List.flatMap_nil, List.append_nil]; rfl
theorem time_snoc (size : Nat) (ρ : List Road) (r : Road) : timeW size (ρ ++ [r]) = colGo size r.2.2.1 (timeW size ρ) := by
  rw [timeW, pcs_snoc, col_app]; rfl
theorem Way.ok {rs : List Road} (h : ∀ r ∈ rs, RoadOk r) {ρ : List Road} {t : Nat} (w : Way rs ρ t) : ∀ r ∈ ρ, RoadOk r := by
  induction w with
  | nil => exact fun _ h => nomatch h
  | snoc _ hr _ ih =>
    intro r h'
    rcases List.mem_append.mp h' with h' | h'
    · exact ih r h'
    · rw [List.mem_singleton.mp h']; exact h _ hr
theorem pcs_blank {ρ : List Road} (h : ∀ r ∈ ρ, RoadOk r) : Blanks (pcs ρ) := fun x hx => by
  obtain ⟨r, hr, hx⟩ := List.mem_flatMap.mp hx
  exact (h r hr).2.2.1 x hx
theorem wsL_str {ρ : List Road} (h : ∀ r ∈ ρ, RoadOk r) : wsL (strW ρ) = wsL (pcs ρ) := wsGo_stop (c := 97) (by decide) (by decide) _ _ 0 0 0 [] (pcs_blank h)
theorem lev_str {size : Nat} (hs : 1 ≤ size) {ρ : List Road} (h : ∀ r ∈ ρ, RoadOk r) : lev size (strW ρ) = (timeW size ρ : Int) := by
  rw [lev, wsL_str h]; exact lev_blank hs (pcs_blank h)
theorem new_str {ρ : List Road} (h : ∀ r ∈ ρ, RoadOk r) (r : Road) : rideNew (strW ρ) r = strW (ρ ++ [r]) := by
  rw [rideNew, wsL_str h, wsL_n (pcs_blank h), strW, List.take_left, List.drop_left, strW, pcs_snoc, List.map_append]
  simp
theorem low_let {c : Nat} (h : Let c) : 97 ≤ lowC c ∧ lowC c ≤ 100 := (let_ok h).2.2.2.2
theorem Way.town {rs : List Road} (h : ∀ r ∈ rs, RoadOk r) {ρ : List Road} {t : Nat} (w : Way rs ρ t) : 97 ≤ t ∧ t ≤ 100 := by
  cases w with
  | nil => exact ⟨Nat.le_refl _, by decide⟩
  | snoc _ hr _ => exact low_let (h _ hr).2.1
-- bget by the town
def bgt (bl : Best) (t : Nat) : Option (List Nat) := (bl.find? fun q => lowC q.1 == t).map (·.2)
theorem bget_t (bl : Best) (c : Nat) : bget bl c = bgt bl (lowC c) := rfl
theorem find_filter (c t : Nat) : ∀ bl : Best, (bl.filter fun q => lowC q.1 != lowC c).find? (fun q => lowC q.1 == t) = if lowC c = t then none else bl.find? fun q => lowC q.1 == t
  | [] => by simp
  | q :: bl => by
    have ih := find_filter c t bl
    rw [List.filter_cons, List.find?_cons]
    by_cases h1 : lowC q.1 = lowC c
    · rw [if_neg (by simp [h1]), ih]
      split
      · rfl
      · next h2 => rw [show (lowC q.1 == t) = false from beq_eq_false_iff_ne.mpr (h1 ▸ h2)]
    · rw [if_pos (by simp [h1]), List.find?_cons, ih]
      by_cases h2 : lowC q.1 = t
      · have h3 : ¬ lowC c = t := fun e => h1 (h2.trans e.symm)
        simp only [h3, if_false]
      · rw [show (lowC q.1 == t) = false from beq_eq_false_iff_ne.mpr h2]
theorem bgt_set (bl : Best) (c : Nat) (v : List Nat) (t : Nat) : bgt (bset bl c v) t = if lowC c = t then some v else bgt bl t := by
  rw [bgt, bset, List.find?_append, find_filter c]
  by_cases h : lowC c = t
  · rw [if_pos h, if_pos h, Option.none_or, List.find?_cons, show (lowC c == t) = true from beq_iff_eq.mpr h]; rfl
  · rw [if_neg h, if_neg h, List.find?_cons, show (lowC c == t) = false from beq_eq_false_iff_ne.mpr h, List.find?_nil, Option.or_none]; rfl
end Mine

theorem Mine.tt_p_pl2d : True := by w_top off; exact trivial
namespace Mine
-- LAW 02, plain: each town's best is the way of towns all different
def Had (size : Nat) (bl : Best) (u n : Nat) : Prop := ∃ v, bgt bl u = some v ∧ lev size v ≤ (n : Int)
inductive WayL (size : Nat) (rs : List Road) (bl : Best) : List Road → Nat → Prop where
  | nil : Had size bl 97 0 → WayL size rs bl [] 97
  | snoc {ρ : List Road} {t : Nat} {r : Road} : WayL size rs bl ρ t → r ∈ rs → lowC r.1 = t → Had size bl (lowC r.2.1) (timeW size (ρ ++ [r])) → WayL size rs bl (ρ ++ [r]) (lowC r.2.1)
def towns (ρ : List Road) : List Nat := 97 :: ρ.map fun r => lowC r.2.1
theorem towns_snoc (ρ : List Road) (r : Road) : towns (ρ ++ [r]) = towns ρ ++ [lowC r.2.1] := by rw [towns, List.map_append]; rfl
theorem WayL.way {size : Nat} {rs : List Road} {bl : Best} {ρ : List Road} {t : Nat} (w : WayL size rs bl ρ t) : Way rs ρ t := by
  induction w with
  | nil _ => exact .nil
  | snoc _ hr he _ ih => exact .snoc ih hr he
theorem WayL.mono {size : Nat} {rs : List Road} {bl bl' : Best} (h : ∀ u n, Had size bl u n → Had size bl' u n) {ρ : List Road} {t : Nat} (w : WayL size rs bl ρ t) : WayL size rs bl' ρ t := by
  induction w with
  | nil h0 => exact .nil (h _ _ h0)
  | snoc _ hr he h0 ih => exact .snoc ih hr he (h _ _ h0)
theorem time_le {size : Nat} (hs : 1 ≤ size) (ρ : List Road) (r : Road) : timeW size ρ ≤ timeW size (ρ ++ [r]) := by
  rw [time_snoc]; exact col_ge hs _ _
theorem WayL.had {size : Nat} (hs : 1 ≤ size) {rs : List Road} {bl : Best} {ρ : List Road} {t : Nat} (w : WayL size rs bl ρ t) : ∀ u ∈ towns ρ, Had size bl u (timeW size ρ) := by
  induction w with
  | nil h0 =>
    intro u hu
    rw [List.mem_singleton.mp hu]; exact h0
  | snoc _ hr he h0 ih =>
    intro u hu
    rw [towns_snoc] at hu
    rcases List.mem_append.mp hu with hu | hu
    · obtain ⟨v, h1, h2⟩ := ih u hu
      exact ⟨v, h1, Int.le_trans h2 (Int.ofNat_le.mpr (time_le hs _ _))⟩
    · rw [List.mem_singleton.mp hu]; exact h0
def Labs (size : Nat) (rs : List Road) (bl : Best) : Prop := ∀ t v, bgt bl t = some v → ∃ ρ, v = strW ρ ∧ WayL size rs bl ρ t ∧ (towns ρ).Nodup
theorem had_set {size : Nat} {bl : Best} {c : Nat} {v : List Nat} (h : ∀ old, bgt bl (lowC c) = some old → lev size v < lev size old) (u n : Nat) (k : Had size bl u n) : Had size (bset bl c v) u n := by
  obtain ⟨w, h1, h2⟩ := k
  unfold Had
  rw [bgt_set]
  by_cases e : lowC c = u
  · subst e
    exact ⟨v, if_pos rfl, Int.le_trans (Int.le_of_lt (h w h1)) h2⟩
  · rw [if_neg e]; exact ⟨w, h1, h2⟩
theorem better_iff {size : Nat} {new : List Nat} {o : Option (List Nat)} (h : better size new o = true) : ∀ old, o = some old → lev size new < lev size old := fun old e => by
  subst e; exact of_decide_eq_true h
theorem labs_set {size : Nat} (hs : 1 ≤ size) {rs : List Road} (hrs : ∀ r ∈ rs, RoadOk r) {bl : Best} (L : Labs size rs bl) {ρ : List Road} {t : Nat} (w : WayL size rs bl ρ t) (hn : (towns ρ).Nodup) {r : Road} (hr : r ∈ rs) (he : lowC r.1 = t) (hb : better size (rideNew (strW ρ) r) (bget bl r.2.1) = true) : Labs size rs (bset bl r.2.1 (rideNew (strW ρ) r)) := by
  have hro := w.way.ok hrs
  have hro2 : ∀ x ∈ ρ ++ [r], RoadOk x := fun x hx => (List.mem_append.mp hx).elim (hro x) fun hx => by rw [List.mem_singleton.mp hx]; exact hrs r hr
  rw [new_str hro] at hb ⊢
  have hlt := better_iff hb
  rw [bget_t] at hlt
  have hm := had_set (size := size) (bl := bl) (c := r.2.1) hlt
  intro u v hv
  rw [bgt_set] at hv
  by_cases e : lowC r.2.1 = u
  · subst e
    rw [if_pos rfl] at hv
    cases hv
    refine ⟨ρ ++ [r], rfl, .snoc (w.mono hm) hr he ⟨_, by rw [bgt_set, if_pos rfl], Int.le_of_eq (lev_str hs hro2)⟩, ?_⟩
    rw [towns_snoc, List.nodup_append]
    refine ⟨hn, List.nodup_cons.mpr ⟨List.not_mem_nil, List.nodup_nil⟩, fun a ha b hb' e => ?_⟩
    rw [List.mem_singleton.mp hb'] at e
    obtain ⟨old, h1, h2⟩ := w.had hs a ha
    have h3 := hlt old (e ▸ h1)
    rw [lev_str hs hro2] at h3
    have h4 : (timeW size ρ : Int) ≤ (timeW size (ρ ++ [r]) : Int) := Int.ofNat_le.mpr (time_le hs ρ r)
    omega
  · rw [if_neg e] at hv
    obtain ⟨σ, h1, h2, h3⟩ := L u v hv
    exact ⟨σ, h1, h2.mono hm, h3⟩
theorem nodup_sub : ∀ (l m : List Nat), l.Nodup → (∀ x ∈ l, x ∈ m) → l.length ≤ m.length
  | [], _, _, _ => Nat.zero_le _
  | a :: l, m, hn, h => by
    have hm := h a (.head _)
    have h1 := nodup_sub l (m.erase a) (List.nodup_cons.mp hn).2 fun x hx => (List.mem_erase_of_ne fun (e : x = a) => (List.nodup_cons.mp hn).1 (by rw [← e]; exact hx)).mpr (h x (.tail _ hx))
    rw [List.length_erase_of_mem hm] at h1
    have h2 := List.length_pos_of_mem hm
    rw [List.length_cons]
    omega
theorem nodup4 {l : List Nat} (h : ∀ x ∈ l, 97 ≤ x ∧ x ≤ 100) (hn : l.Nodup) : l.length ≤ 4 :=
  nodup_sub l [97, 98, 99, 100] hn fun x hx => by
    have := h x hx
    simp only [List.mem_cons, List.not_mem_nil, or_false]
    omega
theorem way_short {size : Nat} {rs : List Road} (hrs : ∀ r ∈ rs, RoadOk r) {bl : Best} {ρ : List Road} {t : Nat} (w : WayL size rs bl ρ t) (hn : (towns ρ).Nodup) : ρ.length ≤ 3 := by
  have hro := w.way.ok hrs
  have := nodup4 (l := towns ρ) (fun x hx => by
    rcases List.mem_cons.mp hx with rfl | hx
    · exact ⟨Nat.le_refl _, by decide⟩
    · obtain ⟨r, hr, rfl⟩ := List.mem_map.mp hx
      exact low_let (hro r hr).2.1) hn
  rw [towns, List.length_cons, List.length_map] at this
  omega
end Mine

theorem Mine.tt_p_pl2e : True := by w_top off; exact trivial
namespace Mine
-- LAW 02, plain: what holds at each road
theorem pcs_len {ρ : List Road} (h : ∀ r ∈ ρ, RoadOk r) : (pcs ρ).length ≤ 2 * ρ.length := by
  induction ρ with
  | nil => exact Nat.le_refl _
  | cons r ρ ih =>
    have h1 := ih fun x hx => h x (.tail _ hx)
    have h2 := (h r (.head _)).2.2.2
    rw [pcs, List.flatMap_cons, List.length_append, List.length_cons]
    rw [pcs] at h1
    omega
theorem str_ok {ρ : List Road} (h : ∀ r ∈ ρ, RoadOk r) (hl : ρ.length ≤ 3) : WayOk (strW ρ) := by
  refine ⟨fun c hc => ?_, ?_, pcs ρ, 97, _, rfl, pcs_blank h, .inr ⟨Nat.le_refl _, by decide⟩⟩
  · rcases List.mem_append.mp hc with hc | hc
    · exact .inl (pcs_blank h c hc)
    · rcases List.mem_cons.mp hc with rfl | hc
      · exact .inr (.inr ⟨Nat.le_refl _, by decide⟩)
      · obtain ⟨r, hr, rfl⟩ := List.mem_map.mp hc
        exact .inr (h r hr).2.1
  · have := pcs_len h
    rw [strW, List.length_append, List.length_cons, List.length_map]; omega
structure Inv (size : Nat) (rs : List Road) (bl : Best) : Prop where
  labs : Labs size rs bl
  ok : ∀ q ∈ bl, Let q.1 ∧ WayOk q.2
  nd : (bl.map fun q => lowC q.1).Nodup
theorem Inv.len {size : Nat} {rs : List Road} {bl : Best} (I : Inv size rs bl) : bl.length ≤ 4 := by
  have := nodup4 (l := bl.map fun q => lowC q.1) (fun x hx => by
    obtain ⟨q, hq, rfl⟩ := List.mem_map.mp hx
    exact low_let (I.ok q hq).1) I.nd
  rwa [List.length_map] at this
theorem Inv.set {size : Nat} (hs : 1 ≤ size) {rs : List Road} (hrs : ∀ r ∈ rs, RoadOk r) {bl : Best} (I : Inv size rs bl) {ρ : List Road} {t : Nat} (w : WayL size rs bl ρ t) (hn : (towns ρ).Nodup) {r : Road} (hr : r ∈ rs) (he : lowC r.1 = t) (hb : better size (rideNew (strW ρ) r) (bget bl r.2.1) = true) : Inv size rs (bset bl r.2.1 (rideNew (strW ρ) r)) := by
  have L := labs_set hs hrs I.labs w hn hr he hb
  refine ⟨L, fun q hq => ?_, ?_⟩
  · rcases List.mem_append.mp hq with hq | hq
    · exact I.ok q (List.mem_filter.mp hq).1
    · rw [List.mem_singleton.mp hq]
      refine ⟨(hrs r hr).2.1, ?_⟩
      obtain ⟨σ, h1, h2, h3⟩ := L (lowC r.2.1) (rideNew (strW ρ) r) (by rw [bgt_set, if_pos rfl])
      dsimp only
      rw [h1]
      exact str_ok (h2.way.ok hrs) (way_short hrs h2 h3)
  · rw [bset, List.map_append, List.nodup_append]
    refine ⟨List.Nodup.sublist (List.Sublist.map _ List.filter_sublist) I.nd, by simp, fun a ha b hb' e => ?_⟩
    obtain ⟨q, hq, rfl⟩ := List.mem_map.mp ha
    rw [List.map_cons, List.map_nil, List.mem_singleton] at hb'
    have := (List.mem_filter.mp hq).2
    rw [e, hb'] at this
    simp at this
structure SInv (size : Nat) (rs : List Road) (st : RSt) : Prop where
  inv : Inv size rs st.1
  q : ∀ c ∈ st.2, Let c ∧ ∃ v, bgt st.1 (lowC c) = some v
theorem has_set {bl : Best} {c : Nat} {v : List Nat} {t : Nat} (h : ∃ v, bgt bl t = some v) : ∃ w, bgt (bset bl c v) t = some w := by
  rw [bgt_set]
  split
  · exact ⟨_, rfl⟩
  · exact h
theorem road_step {size : Nat} (hs : 1 ≤ size) {rs : List Road} (hrs : ∀ r ∈ rs, RoadOk r) {st : RSt} (I : SInv size rs st) {ρ : List Road} {t : Nat} (w : WayL size rs st.1 ρ t) (hn : (towns ρ).Nodup) {r : Road} (hr : r ∈ rs) (he : lowC r.1 = t) :
    SInv size rs (rideRoad size (strW ρ) st r) ∧ WayL size rs (rideRoad size (strW ρ) st r).1 ρ t ∧ (rideRoad size (strW ρ) st r).2.length ≤ st.2.length + 1 := by
  unfold rideRoad
  split
  · next hb =>
    have hm := had_set (size := size) (bl := st.1) (c := r.2.1) (v := rideNew (strW ρ) r) (by rw [← bget_t]; exact better_iff hb)
    refine ⟨⟨I.inv.set hs hrs w hn hr he hb, fun c hc => ?_⟩, w.mono hm, by rw [List.length_append, List.length_singleton]; exact Nat.le_refl _⟩
    rcases List.mem_append.mp hc with hc | hc
    · exact ⟨(I.q c hc).1, has_set (I.q c hc).2⟩
    · rw [List.mem_singleton.mp hc]
      exact ⟨(hrs r hr).2.1, _, by rw [bgt_set, if_pos rfl]⟩
  · exact ⟨I, w, Nat.le_succ _⟩
theorem road_fold {size : Nat} (hs : 1 ≤ size) {rs : List Road} (hrs : ∀ r ∈ rs, RoadOk r) {ρ : List Road} {t : Nat} (hn : (towns ρ).Nodup) : ∀ (l : List Road) {st : RSt}, (∀ r ∈ l, r ∈ rs ∧ lowC r.1 = t) → SInv size rs st → WayL size rs st.1 ρ t →
    SInv size rs (l.foldl (rideRoad size (strW ρ)) st) ∧ (l.foldl (rideRoad size (strW ρ)) st).2.length ≤ st.2.length + l.length
  | [], _, _, I, _ => ⟨I, Nat.le_refl _⟩
  | r :: l, st, h, I, w => by
    obtain ⟨I', w', h1⟩ := road_step hs hrs I w hn (h r (.head _)).1 (h r (.head _)).2
    obtain ⟨I2, h2⟩ := road_fold hs hrs hn l (fun x hx => h x (.tail _ hx)) I' w'
    refine ⟨I2, ?_⟩
    rw [List.length_cons]
    show ((l.foldl (rideRoad size (strW ρ)) (rideRoad size (strW ρ) st r))).2.length ≤ _
    omega
theorem inv_zero (size : Nat) (rs : List Road) : SInv size rs ([(97, [97])], [97]) := by
  have h0 : bgt [(97, [97])] 97 = some [97] := rfl
  refine ⟨⟨fun t v h => ?_, ?_, by simp⟩, fun c hc => ?_⟩
  · by_cases e : t = 97
    · subst e
      rw [h0] at h
      cases h
      exact ⟨[], rfl, .nil ⟨_, h0, by show wsLevel (0, 0, 0, []) size ≤ _; unfold wsLevel; simp [wsIl]⟩, by simp [towns]⟩
    · exfalso
      rw [bgt, List.find?_cons, show (lowC (97, [97]).1 == t) = false from beq_eq_false_iff_ne.mpr fun e2 => e e2.symm] at h
      cases h
  · intro q hq
    rw [List.mem_singleton.mp hq]
    exact ⟨.inr ⟨Nat.le_refl _, by decide⟩, str_ok (ρ := []) (fun _ h => nomatch h) (Nat.zero_le _)⟩
  · rw [List.mem_singleton.mp hc]
    exact ⟨.inr ⟨Nat.le_refl _, by decide⟩, _, h0⟩
end Mine

theorem Mine.tt_p_pl2f : True := by w_top off; exact trivial
namespace Mine
-- LAW 02, plain: a town taken: its roads are had (Moore)
theorem not_better {size : Nat} {new : List Nat} {o : Option (List Nat)} {v : List Nat} (e : o = some v) (h : lev size v ≤ lev size new) : better size new o = false := by
  subst e; exact decide_eq_false (Int.not_lt.mpr h)
def Rlx (size : Nat) (rs : List Road) (bl : Best) (u : Nat) : Prop := ∀ ρ, bgt bl u = some (strW ρ) → (∀ r ∈ ρ, RoadOk r) → ∀ r ∈ rs, lowC r.1 = u → Had size bl (lowC r.2.1) (timeW size (ρ ++ [r]))
section
variable {size : Nat} {rs : List Road} {ρ : List Road} {t : Nat} {r : Road} {st : RSt}
theorem road_had (hs : 1 ≤ size) (hrs : ∀ r ∈ rs, RoadOk r) (w : WayL size rs st.1 ρ t) (hr : r ∈ rs) :
    Had size (rideRoad size (strW ρ) st r).1 (lowC r.2.1) (timeW size (ρ ++ [r])) ∧ (∀ u n, Had size st.1 u n → Had size (rideRoad size (strW ρ) st r).1 u n) ∧
    (∀ u ∈ towns ρ, bgt (rideRoad size (strW ρ) st r).1 u = bgt st.1 u) ∧ (∀ u, bgt (rideRoad size (strW ρ) st r).1 u = bgt st.1 u ∨ u ∈ (rideRoad size (strW ρ) st r).2.map lowC) ∧ (∀ c ∈ st.2, c ∈ (rideRoad size (strW ρ) st r).2) := by
  have hro := w.way.ok hrs
  have hro2 : ∀ x ∈ ρ ++ [r], RoadOk x := fun x hx => (List.mem_append.mp hx).elim (hro x) fun hx => by rw [List.mem_singleton.mp hx]; exact hrs r hr
  unfold rideRoad
  rw [new_str hro]
  split
  · next hb =>
    have hlt := better_iff hb
    rw [bget_t] at hlt
    have hm := had_set (size := size) (bl := st.1) (c := r.2.1) hlt
    refine ⟨⟨_, by rw [bgt_set, if_pos rfl], Int.le_of_eq (lev_str hs hro2)⟩, hm, fun u hu => ?_, fun u => ?_, fun c hc => List.mem_append_left _ hc⟩
    · dsimp only
      rw [bgt_set, if_neg]
      intro e
      obtain ⟨old, h1, h2⟩ := w.had hs u hu
      have h3 := hlt old (e ▸ h1)
      rw [lev_str hs hro2] at h3
      have h4 : (timeW size ρ : Int) ≤ (timeW size (ρ ++ [r]) : Int) := Int.ofNat_le.mpr (time_le hs ρ r)
      omega
    · dsimp only
      rw [bgt_set]
      by_cases e : lowC r.2.1 = u
      · exact .inr (List.mem_map.mpr ⟨r.2.1, List.mem_append_right _ (.head _), e⟩)
      · rw [if_neg e]; exact .inl rfl
  · next hb =>
    refine ⟨?_, fun _ _ h => h, fun _ _ => rfl, fun _ => .inl rfl, fun _ h => h⟩
    cases ho : bget st.1 r.2.1 with
    | none => rw [ho] at hb; exact absurd rfl hb
    | some old =>
      rw [ho] at hb
      refine ⟨old, ho, ?_⟩
      have := Int.not_lt.mp (of_decide_eq_false (by simpa [better] using hb : decide (lev size (strW (ρ ++ [r])) < lev size old) = false))
      rwa [lev_str hs hro2] at this
theorem town_had (hs : 1 ≤ size) (hrs : ∀ r ∈ rs, RoadOk r) (hn : (towns ρ).Nodup) : ∀ (l : List Road) {st : RSt}, (∀ r ∈ l, r ∈ rs ∧ lowC r.1 = t) → SInv size rs st → WayL size rs st.1 ρ t →
    (∀ r ∈ l, Had size (l.foldl (rideRoad size (strW ρ)) st).1 (lowC r.2.1) (timeW size (ρ ++ [r]))) ∧ (∀ u n, Had size st.1 u n → Had size (l.foldl (rideRoad size (strW ρ)) st).1 u n) ∧
    (∀ u ∈ towns ρ, bgt (l.foldl (rideRoad size (strW ρ)) st).1 u = bgt st.1 u) ∧ (∀ u, bgt (l.foldl (rideRoad size (strW ρ)) st).1 u = bgt st.1 u ∨ u ∈ (l.foldl (rideRoad size (strW ρ)) st).2.map lowC) ∧ (∀ c ∈ st.2, c ∈ (l.foldl (rideRoad size (strW ρ)) st).2)
  | [], _, _, _, _ => ⟨(fun _ h => nomatch h), fun _ _ h => h, fun _ _ => rfl, fun _ => .inl rfl, fun _ h => h⟩
  | r :: l, st, h, I, w => by
    obtain ⟨I', w', _⟩ := road_step hs hrs I w hn (h r (.head _)).1 (h r (.head _)).2
    obtain ⟨a1, a2, a3, a4, a5⟩ := road_had hs hrs w (h r (.head _)).1
    obtain ⟨b1, b2, b3, b4, b5⟩ := town_had hs hrs hn l (fun x hx => h x (.tail _ hx)) I' w'
    refine ⟨fun x hx => ?_, fun u n k => b2 u n (a2 u n k), fun u hu => (b3 u hu).trans (a3 u hu), fun u => ?_, fun c hc => b5 c (a5 c hc)⟩
    · rcases List.mem_cons.mp hx with rfl | hx
      · exact b2 _ _ a1
      · exact b1 x hx
    · rcases b4 u with e | e
      · rcases a4 u with e2 | e2
        · exact .inl (e.trans e2)
        · obtain ⟨c, hc, rfl⟩ := List.mem_map.mp e2
          exact .inr (List.mem_map.mpr ⟨c, b5 c hc, rfl⟩)
      · exact .inr e
end
end Mine

theorem Mine.tt_p_pl2g : True := by w_top off; exact trivial
namespace Mine
-- LAW 02, plain: a round
structure RInv (size : Nat) (rs : List Road) (bl0 : Best) (rest : List Nat) (st : RSt) : Prop where
  sinv : SInv size rs st
  had : ∀ u n, Had size bl0 u n → Had size st.1 u n
  wait : ∃ new, st.2 = rest ++ new
  rlx : ∀ u, Rlx size rs st.1 u ∨ u ∈ st.2.map lowC
  dn : ∀ u n, Had size bl0 u n → u ∈ rest.map lowC ∨ ∀ r ∈ rs, lowC r.1 = u → Had size st.1 (lowC r.2.1) (colGo size r.2.2.1 n)
theorem fold_app (size : Nat) (way : List Nat) : ∀ (l : List Road) (st : RSt), ∃ p, (l.foldl (rideRoad size way) st).2 = st.2 ++ p
  | [], st => ⟨[], (List.append_nil _).symm⟩
  | r :: l, st => by
    obtain ⟨p, hp⟩ := fold_app size way l (rideRoad size way st r)
    rw [List.foldl_cons, hp]
    unfold rideRoad
    split
    · exact ⟨[r.2.1] ++ p, by rw [← List.append_assoc]⟩
    · exact ⟨p, rfl⟩
theorem Had.mono {size : Nat} {bl : Best} {u n n' : Nat} (h : Had size bl u n) (k : n ≤ n') : Had size bl u n' := by
  obtain ⟨v, h1, h2⟩ := h
  exact ⟨v, h1, Int.le_trans h2 (Int.ofNat_le.mpr k)⟩
theorem town_inv {size : Nat} (hs : 1 ≤ size) {rs : List Road} (hrs : ∀ r ∈ rs, RoadOk r) {bl0 : Best} {c : Nat} {rest : List Nat} {st : RSt} (R : RInv size rs bl0 (c :: rest) st) :
    ∃ q ρ, st.2 = c :: q ∧ bget st.1 c = some (strW ρ) ∧ WayL size rs st.1 ρ (lowC c) ∧ (towns ρ).Nodup ∧ RInv size rs bl0 rest ((rsOf rs c).foldl (rideRoad size (strW ρ)) (st.1, q)) ∧ SInv size rs (st.1, q) := by
  obtain ⟨new, hw⟩ := R.wait
  have hcq : c ∈ st.2 := by rw [hw]; exact .head _
  obtain ⟨hc, v, hv⟩ := R.sinv.q c hcq
  obtain ⟨ρ, rfl, w, hn⟩ := R.sinv.inv.labs _ _ hv
  have hro := w.way.ok hrs
  have I' : SInv size rs (st.1, rest ++ new) := ⟨R.sinv.inv, fun x hx => R.sinv.q x (by rw [hw]; exact .tail _ hx)⟩
  have hl : ∀ r ∈ rsOf rs c, r ∈ rs ∧ lowC r.1 = lowC c := fun r hr => ⟨(List.mem_filter.mp hr).1, beq_iff_eq.mp (List.mem_filter.mp hr).2⟩
  obtain ⟨b1, b2, b3, b4, b5⟩ := town_had hs hrs hn (rsOf rs c) hl I' w
  have hI := (road_fold hs hrs hn (rsOf rs c) hl I' w).1
  refine ⟨rest ++ new, ρ, hw, hv, w, hn, ⟨hI, fun u n h => b2 u n (R.had u n h), ?_, fun u => ?_, fun u n h => ?_⟩, I'⟩
  · obtain ⟨p, hp⟩ := fold_app size (strW ρ) (rsOf rs c) (st.1, rest ++ new)
    exact ⟨new ++ p, by rw [hp, List.append_assoc]⟩
  · rcases b4 u with e | e
    · rcases R.rlx u with h | h
      · left
        intro σ hσ hok r hr he
        exact b2 _ _ (h σ (e ▸ hσ) hok r hr he)
      · rw [hw, List.cons_append, List.map_cons] at h
        rcases List.mem_cons.mp h with rfl | h
        · left
          intro σ hσ hok r hr he
          have h9 : some (strW σ) = some (strW ρ) := hσ.symm.trans (e.trans hv)
          have h8 : timeW size σ = timeW size ρ := by
            have h7 := lev_str hs hok
            rw [Option.some.inj h9, lev_str hs hro] at h7
            exact (Int.ofNat_inj.mp h7).symm
          rw [time_snoc, h8, ← time_snoc]
          exact b1 r (List.mem_filter.mpr ⟨hr, beq_iff_eq.mpr he⟩)
        · right
          obtain ⟨x, hx, rfl⟩ := List.mem_map.mp h
          exact List.mem_map.mpr ⟨x, b5 x hx, rfl⟩
    · exact .inr e
  · rcases R.dn u n h with h1 | h1
    · rw [List.map_cons] at h1
      rcases List.mem_cons.mp h1 with rfl | h1
      · right
        intro r hr he
        obtain ⟨x, h2, h3⟩ := R.had _ n h
        rw [show bgt st.1 (lowC c) = some (strW ρ) from hv] at h2
        cases h2
        rw [lev_str hs hro] at h3
        have h4 := b1 r (List.mem_filter.mpr ⟨hr, beq_iff_eq.mpr he⟩)
        rw [time_snoc] at h4
        exact h4.mono (col_mono _ (Int.ofNat_le.mp h3))
      · exact .inl h1
    · exact .inr fun r hr he => b2 _ _ (h1 r hr he)
inductive Walk (size : Nat) (rs : List Road) : Nat → Nat → Nat → Prop where
  | nil : Walk size rs 0 97 0
  | step {k t n : Nat} {r : Road} : Walk size rs k t n → r ∈ rs → lowC r.1 = t → Walk size rs (k + 1) (lowC r.2.1) (colGo size r.2.2.1 n)
def Cov (size : Nat) (rs : List Road) (k : Nat) (bl : Best) : Prop := ∀ j t n, j ≤ k → Walk size rs j t n → Had size bl t n
theorem cov_step {size : Nat} {rs : List Road} {k : Nat} {bl0 : Best} {st : RSt} (C : Cov size rs k bl0) (R : RInv size rs bl0 [] st) : Cov size rs (k + 1) st.1 := by
  intro j t n hj w
  by_cases h : j ≤ k
  · exact R.had _ _ (C j t n h w)
  · cases w with
    | nil => exact absurd (Nat.zero_le _) h
    | step w' hr he =>
      have h1 := C _ _ _ (by omega) w'
      rcases R.dn _ _ h1 with h2 | h2
      · cases h2
      · exact h2 _ hr he
end Mine

theorem Mine.tt_p_pl2h : True := by w_top off; exact trivial
namespace Mine
-- LAW 02, plain: the rounds
theorem town_eq {size : Nat} {rs : List Road} {st : RSt} {c : Nat} {q way : List Nat} (e : st.2 = c :: q) (g : bget st.1 c = some way) : rideTown size rs st = (rsOf rs c).foldl (rideRoad size way) (st.1, q) := by
  obtain ⟨bl, qs⟩ := st
  dsimp only at e g
  rw [rideTown, e]
  dsimp only
  rw [g]
theorem rinv_zero {size : Nat} (hs : 1 ≤ size) {rs : List Road} (hrs : ∀ r ∈ rs, RoadOk r) {st : RSt} (I : SInv size rs st) (hr : ∀ u, Rlx size rs st.1 u ∨ u ∈ st.2.map lowC) : RInv size rs st.1 st.2 st := by
  refine ⟨I, fun _ _ h => h, ⟨[], (List.append_nil _).symm⟩, hr, fun u n h => ?_⟩
  rcases hr u with h1 | h1
  · right
    intro r hrr he
    obtain ⟨v, h2, h3⟩ := h
    obtain ⟨ρ, rfl, w, _⟩ := I.inv.labs _ _ h2
    have hro := w.way.ok hrs
    rw [lev_str hs hro] at h3
    have h4 := h1 ρ h2 hro r hrr he
    rw [time_snoc] at h4
    exact h4.mono (col_mono _ (Int.ofNat_le.mp h3))
  · exact .inl h1
theorem round_inv {size : Nat} (hs : 1 ≤ size) {rs : List Road} (hrs : ∀ r ∈ rs, RoadOk r) {st : RSt} (R : RInv size rs st.1 st.2 st) : ∀ i, i ≤ st.2.length → RInv size rs st.1 (st.2.drop i) (rideN size rs i st)
  | 0, _ => R
  | i + 1, h => by
    have R' := round_inv hs hrs R i (Nat.le_of_succ_le h)
    rw [List.drop_eq_getElem_cons (show i < st.2.length from h)] at R'
    obtain ⟨q, ρ, e, g, _, _, R2, _⟩ := town_inv hs hrs R'
    rw [rideN, town_eq e g]
    exact R2
theorem rounds {size : Nat} (hs : 1 ≤ size) {rs : List Road} (hrs : ∀ r ∈ rs, RoadOk r) : ∀ k, SInv size rs (ride size rs k) ∧ (∀ u, Rlx size rs (ride size rs k).1 u ∨ u ∈ (ride size rs k).2.map lowC) ∧ Cov size rs k (ride size rs k).1
  | 0 => by
    refine ⟨inv_zero size rs, fun u => ?_, fun j t n hj w => ?_⟩
    · by_cases e : u = 97
      · subst e; exact .inr (.head _)
      · left
        intro ρ h
        exfalso
        rw [ride, bgt, List.find?_cons, show (lowC (97, [97]).1 == u) = false from beq_eq_false_iff_ne.mpr fun e2 => e e2.symm] at h
        cases h
    · cases w with
      | nil => exact ⟨[97], rfl, by show wsLevel (0, 0, 0, []) size ≤ _; unfold wsLevel; simp [wsIl]⟩
      | step _ _ _ => exact absurd hj (Nat.not_succ_le_zero _)
  | k + 1 => by
    obtain ⟨I, hr, C⟩ := rounds hs hrs k
    have R := round_inv hs hrs (rinv_zero hs hrs I hr) _ (Nat.le_refl _)
    rw [List.drop_length] at R
    exact ⟨R.sinv, R.rlx, cov_step C R⟩
theorem rideN_len {size : Nat} {rs : List Road} (hz : rs.length ≤ 8) (st : RSt) : ∀ i, (rideN size rs i st).2.length ≤ st.2.length + 7 * i
  | 0 => Nat.le_refl _
  | i + 1 => by
    have h := rideN_len (size := size) hz st i
    rw [rideN]
    generalize rideN size rs i st = s at h
    have key : ∀ (way : List Nat) (l : List Road) (s : RSt), (l.foldl (rideRoad size way) s).2.length ≤ s.2.length + l.length := by
      intro way l
      induction l with
      | nil => intro s; exact Nat.le_refl _
      | cons r l ih =>
        intro s
        have h1 := ih (rideRoad size way s r)
        have h2 : (rideRoad size way s r).2.length ≤ s.2.length + 1 := by
          unfold rideRoad
          split
          · rw [List.length_append, List.length_singleton]; exact Nat.le_refl _
          · exact Nat.le_succ _
        rw [List.foldl_cons, List.length_cons]; omega
    obtain ⟨bl, qs⟩ := s
    unfold rideTown
    dsimp only at h ⊢
    cases qs with
    | nil => dsimp only at h ⊢; exact Nat.le_trans h (by omega)
    | cons c q =>
      rw [List.length_cons] at h
      dsimp only
      split
      · dsimp only; omega
      · have h3 := key ‹_› (rsOf rs c) (bl, q)
        have h4 : (rsOf rs c).length ≤ 8 := Nat.le_trans (List.length_filter_le ..) hz
        dsimp only at h3
        omega
end Mine

theorem Mine.tt_p_pl2i : True := by w_top off; exact trivial
namespace Mine
-- LAW 02, plain: the fourth round; what the walk wants
theorem way_walk {size : Nat} {rs : List Road} {ρ : List Road} {t : Nat} (w : Way rs ρ t) : Walk size rs ρ.length t (timeW size ρ) := by
  induction w with
  | nil => exact .nil
  | snoc _ hr he ih =>
    rw [List.length_append, List.length_singleton, time_snoc]
    exact .step ih hr he
theorem new_had {size : Nat} (hs : 1 ≤ size) {rs : List Road} (hrs : ∀ r ∈ rs, RoadOk r) {bl0 bl : Best} (C : Cov size rs 3 bl0) (hh : ∀ u n, Had size bl0 u n → Had size bl u n) {ρ : List Road} {t : Nat} (w : WayL size rs bl ρ t) (hn : (towns ρ).Nodup) {r : Road} (hr : r ∈ rs) (he : lowC r.1 = t) : better size (rideNew (strW ρ) r) (bget bl r.2.1) = false := by
  have hro := w.way.ok hrs
  have hro2 : ∀ x ∈ ρ ++ [r], RoadOk x := fun x hx => (List.mem_append.mp hx).elim (hro x) fun hx => by rw [List.mem_singleton.mp hx]; exact hrs r hr
  have key : Had size bl (lowC r.2.1) (timeW size (ρ ++ [r])) := by
    by_cases e : lowC r.2.1 ∈ towns ρ
    · exact (w.had hs _ e).mono (time_le hs ρ r)
    · have hw : Way rs (ρ ++ [r]) (lowC r.2.1) := .snoc w.way hr he
      have hn2 : (towns (ρ ++ [r])).Nodup := by
        rw [towns_snoc, List.nodup_append]
        exact ⟨hn, List.nodup_cons.mpr ⟨List.not_mem_nil, List.nodup_nil⟩, fun a ha b hb e2 => e (by rw [List.mem_singleton.mp hb] at e2; exact e2 ▸ ha)⟩
      have h4 := nodup4 (l := towns (ρ ++ [r])) (fun x hx => by
        rcases List.mem_cons.mp hx with rfl | hx
        · exact ⟨Nat.le_refl _, by decide⟩
        · obtain ⟨y, hy, rfl⟩ := List.mem_map.mp hx
          exact low_let (hro2 y hy).2.1) hn2
      rw [towns, List.length_cons, List.length_map] at h4
      exact hh _ _ (C _ _ _ (by omega) (way_walk hw))
  obtain ⟨v, h1, h2⟩ := key
  rw [new_str hro]
  exact not_better (v := v) h1 (by rw [lev_str hs hro2]; exact h2)
theorem fold_same {size : Nat} (hs : 1 ≤ size) {rs : List Road} (hrs : ∀ r ∈ rs, RoadOk r) {bl0 bl : Best} (C : Cov size rs 3 bl0) (hh : ∀ u n, Had size bl0 u n → Had size bl u n) {ρ : List Road} {t : Nat} (w : WayL size rs bl ρ t) (hn : (towns ρ).Nodup) (q : List Nat) : ∀ l : List Road, (∀ r ∈ l, r ∈ rs ∧ lowC r.1 = t) → l.foldl (rideRoad size (strW ρ)) (bl, q) = (bl, q)
  | [], _ => rfl
  | r :: l, h => by
    have e : rideRoad size (strW ρ) (bl, q) r = (bl, q) := by
      rw [rideRoad, new_had hs hrs C hh w hn (h r (.head _)).1 (h r (.head _)).2]; rfl
    rw [List.foldl_cons, e]
    exact fold_same hs hrs C hh w hn q l fun x hx => h x (.tail _ hx)
theorem last_round {size : Nat} (hs : 1 ≤ size) {rs : List Road} (hrs : ∀ r ∈ rs, RoadOk r) {st : RSt} (I : SInv size rs st) (hr : ∀ u, Rlx size rs st.1 u ∨ u ∈ st.2.map lowC) (C : Cov size rs 3 st.1) : ∀ i, i ≤ st.2.length → rideN size rs i st = (st.1, st.2.drop i)
  | 0, _ => rfl
  | i + 1, h => by
    have ih := last_round hs hrs I hr C i (Nat.le_of_succ_le h)
    have R' := round_inv hs hrs (rinv_zero hs hrs I hr) i (Nat.le_of_succ_le h)
    have hd := List.drop_eq_getElem_cons (show i < st.2.length from h)
    rw [hd] at R'
    obtain ⟨q, ρ, e, g, w, hn, _, _⟩ := town_inv hs hrs R'
    rw [rideN, town_eq e g]
    rw [ih] at e w ⊢
    dsimp only at e w ⊢
    rw [hd] at e
    obtain ⟨_, rfl⟩ := List.cons.inj e
    exact fold_same hs hrs C (fun _ _ h => h) w hn _ _ fun r hr => ⟨(List.mem_filter.mp hr).1, beq_iff_eq.mp (List.mem_filter.mp hr).2⟩
theorem sinv_good {size : Nat} {rs : List Road} {st : RSt} (I : SInv size rs st) (h : st.2.length ≤ 900) : GoodS st :=
  ⟨Nat.le_trans I.inv.len (by decide), I.inv.ok, h, fun c hc => (I.q c hc).1⟩
theorem ride_len {size : Nat} {rs : List Road} (hz : rs.length ≤ 8) (k : Nat) : (ride size rs (k + 1)).2.length ≤ 8 * (ride size rs k).2.length := by
  have := rideN_len (size := size) hz (ride size rs k) (ride size rs k).2.length
  rw [ride]; omega
theorem ride_ok {size : Nat} (hs : 1 ≤ size) {rs : List Road} (hrs : ∀ r ∈ rs, RoadOk r) (hz : rs.length ≤ 8) : RideOk size rs := by
  have h0 : (ride size rs 0).2.length = 1 := rfl
  have h1 := ride_len (size := size) hz 0
  have h2 := ride_len (size := size) hz 1
  have h3 := ride_len (size := size) hz 2
  obtain ⟨I3, r3, C3⟩ := rounds hs hrs 3
  have hl := last_round hs hrs I3 r3 C3
  have h4 : (ride size rs 4).2 = [] := by
    rw [ride, hl _ (Nat.le_refl _)]
    exact List.drop_length
  refine ⟨fun k hk => sinv_good (rounds hs hrs k).1 ?_, fun k i hk hi => ?_, h4⟩
  · match k, hk with
    | 0, _ => omega
    | 1, _ => omega
    | 2, _ => omega
    | 3, _ => omega
    | 4, _ => rw [h4]; exact Nat.zero_le _
  · obtain ⟨I, r, _⟩ := rounds hs hrs k
    have R := round_inv hs hrs (rinv_zero hs hrs I r) i (Nat.le_of_lt hi)
    have hll : (rideN size rs i (ride size rs k)).2.length ≤ 520 := by
      have := rideN_len (size := size) hz (ride size rs k) i
      match k, hk with
      | 0, _ => omega
      | 1, _ => omega
      | 2, _ => omega
      | 3, _ =>
        rw [hl i (Nat.le_of_lt hi)]
        dsimp only
        rw [List.length_drop]; omega
    rw [List.drop_eq_getElem_cons hi] at R
    obtain ⟨q, ρ, e, g, w, hn, _, I'⟩ := town_inv hs hrs R
    refine ⟨_, q, strW ρ, e, g, (R.sinv.q _ (by rw [e]; exact .head _)).1, str_ok (w.way.ok hrs) (way_short hrs w hn), fun j => ?_⟩
    obtain ⟨J, hj⟩ := road_fold hs hrs hn ((rsOf rs _).take j) (fun x hx => ⟨(List.mem_filter.mp (List.mem_of_mem_take hx)).1, beq_iff_eq.mp (List.mem_filter.mp (List.mem_of_mem_take hx)).2⟩) I' w
    refine sinv_good J (Nat.le_trans hj ?_)
    have h5 : ((rsOf rs ((ride size rs k).2[i])).take j).length ≤ 8 := by
      rw [List.length_take]
      exact Nat.le_trans (Nat.min_le_right _ _) (Nat.le_trans (List.length_filter_le ..) hz)
    rw [e, List.length_cons] at hll
    dsimp only
    omega
end Mine

theorem Mine.tt_p_pl2j : True := by w_top off; exact trivial
namespace Mine
-- LAW 02, plain: the tables of hours
theorem road_at {size : Nat} {hours after : Hrs} {r : Road} (hl : after.length = 4) (hp : placeOf r.2.1 < 4) (p : Nat) :
    (hrRoad size hours after r).getD p none = match hours.getD (placeOf r.1) none with
      | none => after.getD p none
      | some e => if placeOf r.2.1 = p then (match after.getD p none with
          | none => some (colGo size r.2.2.1 e)
          | some a => if colGo size r.2.2.1 e < a then some (colGo size r.2.2.1 e) else some a) else after.getD p none := by
  unfold hrRoad
  cases hours.getD (placeOf r.1) none with
  | none => rfl
  | some e =>
    dsimp only
    by_cases h : placeOf r.2.1 = p
    · subst h
      rw [if_pos rfl]
      cases ha : after.getD (placeOf r.2.1) none with
      | none => dsimp only; rw [List.getD_eq_getElem?_getD, List.getElem?_set, if_pos rfl, if_pos (by omega)]; rfl
      | some a =>
        dsimp only
        split
        · rw [List.getD_eq_getElem?_getD, List.getElem?_set, if_pos rfl, if_pos (by omega)]; rfl
        · exact ha
    · rw [if_neg h]
      cases after.getD (placeOf r.2.1) none with
      | none => dsimp only; rw [List.getD_eq_getElem?_getD, List.getElem?_set, if_neg h, ← List.getD_eq_getElem?_getD]
      | some a =>
        dsimp only
        split
        · rw [List.getD_eq_getElem?_getD, List.getElem?_set, if_neg h, ← List.getD_eq_getElem?_getD]
        · rfl
def HrLe (l : Hrs) (p n : Nat) : Prop := ∃ h, l.getD p none = some h ∧ h ≤ n
theorem road_keep {size : Nat} {hours after : Hrs} {r : Road} (hl : after.length = 4) (hp : placeOf r.2.1 < 4) {p n : Nat} (h : HrLe after p n) : HrLe (hrRoad size hours after r) p n := by
  obtain ⟨a, h1, h2⟩ := h
  unfold HrLe
  rw [road_at hl hp]
  cases hours.getD (placeOf r.1) none with
  | none => exact ⟨a, h1, h2⟩
  | some e =>
    dsimp only
    split
    · rw [h1]
      dsimp only
      split
      · exact ⟨_, rfl, by omega⟩
      · exact ⟨a, rfl, h2⟩
    · exact ⟨a, h1, h2⟩
theorem road_new {size : Nat} {hours after : Hrs} {r : Road} (hl : after.length = 4) (hp : placeOf r.2.1 < 4) {e : Nat} (h : hours.getD (placeOf r.1) none = some e) : HrLe (hrRoad size hours after r) (placeOf r.2.1) (colGo size r.2.2.1 e) := by
  unfold HrLe
  rw [road_at hl hp, h]
  dsimp only
  rw [if_pos rfl]
  cases after.getD (placeOf r.2.1) none with
  | none => exact ⟨_, rfl, Nat.le_refl _⟩
  | some a =>
    dsimp only
    split
    · exact ⟨_, rfl, Nat.le_refl _⟩
    · exact ⟨a, rfl, by omega⟩
theorem place_lt {c : Nat} (h : Let c) : placeOf c < 4 := by have := low_let h; unfold placeOf; omega
theorem fold_keep {size : Nat} {hours : Hrs} {p n : Nat} : ∀ (l : List Road) {after : Hrs}, (∀ r ∈ l, RoadOk r) → after.length = 4 → HrLe after p n → HrLe (l.foldl (hrRoad size hours) after) p n
  | [], _, _, _, h => h
  | r :: l, _, hr, hl, h => fold_keep l (fun x hx => hr x (.tail _ hx)) (hrRoad_len.trans hl) (road_keep hl (place_lt (hr r (.head _)).2.1) h)
theorem fold_new {size : Nat} {hours : Hrs} {r : Road} {e : Nat} (h : hours.getD (placeOf r.1) none = some e) : ∀ (l : List Road) {after : Hrs}, (∀ r ∈ l, RoadOk r) → after.length = 4 → r ∈ l → HrLe (l.foldl (hrRoad size hours) after) (placeOf r.2.1) (colGo size r.2.2.1 e)
  | [], _, _, _, hm => nomatch hm
  | x :: l, _, hr, hl, hm => by
    rcases List.mem_cons.mp hm with rfl | hm
    · exact fold_keep l (fun x hx => hr x (.tail _ hx)) (hrRoad_len.trans hl) (road_new hl (place_lt (hr _ (.head _)).2.1) h)
    · exact fold_new h l (fun x hx => hr x (.tail _ hx)) (hrRoad_len.trans hl) hm
theorem hr_walk {size : Nat} {rs : List Road} (hrs : ∀ r ∈ rs, RoadOk r) : ∀ k j t n, j ≤ k → Walk size rs j t n → HrLe (hrAt size rs k) (t - 97) n
  | 0, j, t, n, hj, w => by
    cases w with
    | nil => exact ⟨0, rfl, Nat.le_refl _⟩
    | step _ _ _ => exact absurd hj (Nat.not_succ_le_zero _)
  | k + 1, j, t, n, hj, w => by
    by_cases h : j ≤ k
    · exact fold_keep rs hrs (hrAt_len k) (hr_walk hrs k j t n h w)
    · cases w with
      | nil => exact absurd (Nat.zero_le _) h
      | step w' hr he =>
        obtain ⟨e, h1, h2⟩ := hr_walk hrs k _ _ _ (by omega) w'
        subst he
        obtain ⟨x, h3, h4⟩ := fold_new (size := size) h1 rs (after := hrAt size rs k) hrs (hrAt_len k) hr
        exact ⟨x, h3, Nat.le_trans h4 (col_mono _ h2)⟩
end Mine

theorem Mine.tt_p_pl2k : True := by w_top off; exact trivial
namespace Mine
-- LAW 02, plain: what the tables tell is a walk; told against the tables
theorem road_src {size : Nat} {hours after : Hrs} {r : Road} (hl : after.length = 4) (hp : placeOf r.2.1 < 4) {p h : Nat} (k : (hrRoad size hours after r).getD p none = some h) :
    after.getD p none = some h ∨ ∃ e, hours.getD (placeOf r.1) none = some e ∧ placeOf r.2.1 = p ∧ h = colGo size r.2.2.1 e := by
  rw [road_at hl hp] at k
  cases he : hours.getD (placeOf r.1) none with
  | none => rw [he] at k; exact .inl k
  | some e =>
    rw [he] at k
    dsimp only at k
    by_cases h1 : placeOf r.2.1 = p
    · rw [if_pos h1] at k
      cases ha : after.getD p none with
      | none => rw [ha] at k; dsimp only at k; cases k; exact .inr ⟨e, rfl, h1, rfl⟩
      | some a =>
        rw [ha] at k
        dsimp only at k
        split at k
        · cases k; exact .inr ⟨e, rfl, h1, rfl⟩
        · exact .inl k
    · rw [if_neg h1] at k; exact .inl k
theorem fold_src {size : Nat} {hours : Hrs} {p h : Nat} : ∀ (l : List Road) {after : Hrs}, (∀ r ∈ l, RoadOk r) → after.length = 4 → (l.foldl (hrRoad size hours) after).getD p none = some h →
    after.getD p none = some h ∨ ∃ r ∈ l, ∃ e, hours.getD (placeOf r.1) none = some e ∧ placeOf r.2.1 = p ∧ h = colGo size r.2.2.1 e
  | [], _, _, _, k => .inl k
  | r :: l, _, hr, hl, k => by
    rcases fold_src l (fun x hx => hr x (.tail _ hx)) (hrRoad_len.trans hl) k with k | ⟨x, hx, e, h1, h2, h3⟩
    · rcases road_src hl (place_lt (hr r (.head _)).2.1) k with k | ⟨e, h1, h2, h3⟩
      · exact .inl k
      · exact .inr ⟨r, .head _, e, h1, h2, h3⟩
    · exact .inr ⟨x, .tail _ hx, e, h1, h2, h3⟩
theorem hr_src {size : Nat} {rs : List Road} (hrs : ∀ r ∈ rs, RoadOk r) : ∀ k p h, (hrAt size rs k).getD p none = some h → ∃ j, j ≤ k ∧ Walk size rs j (97 + p) h
  | 0, p, h, e => by
    match p with
    | 0 => cases e; exact ⟨0, Nat.le_refl _, .nil⟩
    | 1 => cases e
    | 2 => cases e
    | 3 => cases e
    | n + 4 => rw [List.getD_eq_getElem?_getD, List.getElem?_eq_none (by simp [hrAt])] at e; cases e
  | k + 1, p, h, e => by
    rcases fold_src rs hrs (hrAt_len k) e with e | ⟨r, hr, x, h1, h2, h3⟩
    · obtain ⟨j, h1, h2⟩ := hr_src hrs k p h e
      exact ⟨j, Nat.le_succ_of_le h1, h2⟩
    · obtain ⟨j, h4, h5⟩ := hr_src hrs k _ _ h1
      have h6 := low_let (hrs r hr).1
      have h7 := low_let (hrs r hr).2.1
      have h8 := Walk.step (r := r) h5 hr (by unfold placeOf; omega)
      refine ⟨j + 1, Nat.succ_le_succ h4, ?_⟩
      rw [h3, show 97 + p = lowC r.2.1 by rw [← h2]; unfold placeOf; omega]
      exact h8
theorem told_le {size : Nat} (hs : 1 ≤ size) {rs : List Road} (hrs : ∀ r ∈ rs, RoadOk r) (k p due : Nat) (h : (hrAt size rs k).getD p none = some due) : ∃ v, bgt (ride size rs k).1 (97 + p) = some v ∧ lev size v ≤ (due : Int) := by
  obtain ⟨j, h1, h2⟩ := hr_src hrs k p due h
  exact (rounds hs hrs k).2.2 j _ _ h1 h2
theorem told_eq {size : Nat} (hs : 1 ≤ size) {rs : List Road} (hrs : ∀ r ∈ rs, RoadOk r) (p due : Nat) (h : (hrAt size rs 4).getD p none = some due) : ∃ v, bgt (ride size rs 4).1 (97 + p) = some v ∧ lev size v = (due : Int) := by
  obtain ⟨v, h1, h2⟩ := told_le hs hrs 4 p due h
  refine ⟨v, h1, Int.le_antisymm h2 ?_⟩
  obtain ⟨ρ, rfl, w, hn⟩ := (rounds hs hrs 4).1.inv.labs _ _ h1
  rw [lev_str hs (w.way.ok hrs)]
  obtain ⟨x, h3, h4⟩ := hr_walk hrs 4 _ _ _ (Nat.le_succ_of_le (way_short hrs w hn)) (way_walk (size := size) w.way)
  rw [show 97 + p - 97 = p by omega, h] at h3
  cases h3
  exact Int.ofNat_le.mpr h4
end Mine

theorem Mine.tt_p_pl2l : True := by w_top off; exact trivial
namespace Mine
-- LAW 02, plain: all four towns are told behind the fourth round
theorem roads4 (sc : List Int) : roadN 100 ∈ lawRoads sc ∧ roadN 408 ∈ lawRoads sc ∧ roadN 13 ∈ lawRoads sc :=
  ⟨.head _, .tail _ (.head _), .tail _ (.tail _ (.tail _ (.head _)))⟩
theorem road_tn : lowC (roadN 100).1 = 97 ∧ lowC (roadN 100).2.1 = 98 ∧ lowC (roadN 408).1 = 97 ∧ lowC (roadN 408).2.1 = 99 ∧ lowC (roadN 13).1 = 98 ∧ lowC (roadN 13).2.1 = 100 := by decide +kernel
theorem walk_all (size : Nat) (sc : List Int) : ∀ p, p < 4 → ∃ j n, j ≤ 4 ∧ Walk size (lawRoads sc) j (97 + p) n := by
  obtain ⟨m1, m2, m3⟩ := roads4 sc
  obtain ⟨a1, a2, b1, b2, c1, c2⟩ := road_tn
  have w1 := Walk.step (size := size) Walk.nil m1 a1
  have w2 := Walk.step (size := size) Walk.nil m2 b1
  have w3 := Walk.step w1 m3 (c1.trans a2.symm)
  rw [a2] at w1
  rw [b2] at w2
  rw [c2] at w3
  intro p hp
  match p, hp with
  | 0, _ => exact ⟨0, _, Nat.zero_le _, .nil⟩
  | 1, _ => exact ⟨1, _, by decide, w1⟩
  | 2, _ => exact ⟨1, _, by decide, w2⟩
  | 3, _ => exact ⟨2, _, by decide, w3⟩
  | p + 4, h => exact absurd h (by omega)
theorem all_told {size : Nat} (hs : 1 ≤ size) (sc : List Int) (p : Nat) (hp : p < 4) : ∃ ρ, bgt (ride size (lawRoads sc) 4).1 (97 + p) = some (strW ρ) ∧ Way (lawRoads sc) ρ (97 + p) ∧ ρ.length ≤ 3 := by
  have hrs : ∀ r ∈ lawRoads sc, RoadOk r := roads_ok
  obtain ⟨S, _, C⟩ := rounds hs hrs 4
  obtain ⟨j, n, hj, w⟩ := walk_all size sc p hp
  obtain ⟨v, h1, _⟩ := C j _ _ hj w
  obtain ⟨ρ, rfl, w2, hn⟩ := S.inv.labs _ _ h1
  exact ⟨ρ, h1, w2.way, way_short hrs w2 hn⟩
end Mine

theorem Mine.tt_p_gosp : True := by w_top off; exact trivial
namespace Mine
-- LAW 02, plain: texts that _law_goes handles
open PySem.Builtin.Str
theorem tw_blank {r : List Nat} {c : Nat} (h1 : c ≠ 32) (h2 : c ≠ 9) : ∀ {b : List Nat}, Blanks b → (b ++ c :: r).takeWhile (#[32, 9] : Array Nat).contains = b
  | [], _ => by
    rw [List.nil_append, List.takeWhile_cons, if_neg]
    simp [h1, h2]
  | x :: b, h => by
    rw [List.cons_append, List.takeWhile_cons, if_pos, tw_blank h1 h2 fun y hy => h y (.tail _ hy)]
    rcases h x (.head _) with rfl | rfl <;> decide +kernel
theorem lstrip_st {b r : List Nat} {c : Nat} (hb : Blanks b) (h1 : c ≠ 32) (h2 : c ≠ 9) : Txt.lstripChars (stOf (b ++ c :: r)) (Str.ofString " \t") = stOf (c :: r) := by
  have hg : (Str.ofString " \t").cps = #[32, 9] := by decide +kernel
  rw [Txt.lstripChars, hg, PyProof.Rows.stripBy_eq]
  have e1 : stripLo (#[32, 9] : Array Nat).contains true (stOf (b ++ c :: r)) = b.length := by
    show ((b ++ c :: r).takeWhile (#[32, 9] : Array Nat).contains).length = _
    rw [tw_blank h1 h2 hb]
  rw [e1]
  show (⟨(b ++ c :: r).toArray.extract b.length (b ++ c :: r).toArray.size⟩ : Str) = ⟨(c :: r).toArray⟩
  congr 1
  apply Array.toList_inj.mp
  simp
theorem sl_mid (l r : List Nat) (x y : Nat) {i j : Int} (hi : i = (l.length : Int)) (hj : j = (l.length : Int) + 2) : Txt.slice (stOf (l ++ x :: y :: r)) (some i) (some j) = stOf [x, y] := by
  subst hi hj
  have hlen : (stOf (l ++ x :: y :: r)).length = l.length + (r.length + 2) := by rw [st_len, List.length_append]; rfl
  rw [beq_iff_eq.mp (slice_closesL (x := stOf (l ++ x :: y :: r)) (i := (l.length : Int)) (j := (l.length : Int) + 2) (by omega) (by omega) (by rw [hlen]; omega))]
  show (⟨(((l ++ x :: y :: r).drop ((l.length : Int)).toNat).take ((l.length : Int) + 2 - (l.length : Int)).toNat).toArray⟩ : Str) = ⟨[x, y].toArray⟩
  rw [Int.toNat_natCast, List.drop_left, show ((l.length : Int) + 2 - (l.length : Int)).toNat = 2 by omega]
  rfl
theorem sl_last (l : List Nat) (x : Nat) : Txt.slice (stOf (l ++ [x])) (some (-1)) none = stOf [x] := by
  have hlen : (stOf (l ++ [x])).length = l.length + 1 := by rw [st_len, List.length_append]; rfl
  rw [beq_iff_eq.mp (slice_closes_from_neg (x := stOf (l ++ [x])) (i := -1) (a := (l.length : Int)) (b := (l.length : Int) + 1) (by omega) (by rw [hlen]; omega) (by rw [hlen]; omega) (by rw [hlen]; omega))]
  show (⟨(((l ++ [x]).drop ((l.length : Int)).toNat).take ((l.length : Int) + 1 - (l.length : Int)).toNat).toArray⟩ : Str) = ⟨[x].toArray⟩
  rw [Int.toNat_natCast, List.drop_left, show ((l.length : Int) + 1 - (l.length : Int)).toNat = 1 by omega]
  rfl
theorem low_st {l : List Nat} (h : ∀ c ∈ l, Let c) : Txt.lower (stOf l) = stOf (l.map lowC) := by
  rw [PyProof.Rows.lower_ascii fun c hc => by have := h c hc; unfold Let at this; omega]
  show (⟨l.toArray.map PyProof.Rows.lo1⟩ : Str) = ⟨(l.map lowC).toArray⟩
  rw [List.map_toArray]
  have : l.map PyProof.Rows.lo1 = l.map lowC := List.map_congr_left fun c hc => by
    have := h c hc
    unfold Let at this
    unfold PyProof.Rows.lo1 lowC
    split <;> split <;> omega
  rw [this]
theorem sl_take (l : List Nat) (n : Nat) : Txt.slice (stOf l) none (some (n : Int)) = stOf (l.take n) := by
  by_cases h : n ≤ l.length
  · have e := sl_to (l.take n) (l.drop n) (n := n) (by rw [List.length_take]; omega)
    rwa [List.take_append_drop] at e
  · rw [List.take_of_length_le (by omega)]
    rw [PyProof.Rows.slice_to_beyond (x := stOf l) (j := (n : Int)) (by rw [st_len]; omega)]
    have e := sl_to l [] (n := (stOf l).length) (st_len l)
    rwa [List.append_nil] at e
theorem sl_drop (l : List Nat) (n : Nat) : Txt.slice (stOf l) (some (n : Int)) none = stOf (l.drop n) := by
  by_cases h : n ≤ l.length
  · have e := sl_from (l.take n) (l.drop n) (n := n) (by rw [List.length_take]; omega)
    rwa [List.take_append_drop] at e
  · rw [List.drop_eq_nil_of_le (by omega)]
    exact PyProof.Rows.slice_from_beyond (x := stOf l) (i := (n : Int)) (by rw [st_len]; omega)
def twn (ρ : List Road) : List Nat := 97 :: (ρ.map fun r => r.2.1).map lowC
theorem twn_snoc (ρ : List Road) (r : Road) : twn (ρ ++ [r]) = twn ρ ++ [lowC r.2.1] := by rw [twn, List.map_append, List.map_append]; rfl
theorem Way.last {rs ρ : List Road} {t : Nat} (w : Way rs ρ t) : ∃ l, twn ρ = l ++ [t] ∧ l.length = ρ.length := by
  cases w with
  | nil => exact ⟨[], rfl, rfl⟩
  | @snoc ρ t r w _ _ => exact ⟨twn ρ, twn_snoc ρ r, by rw [twn, List.length_cons, List.length_map, List.length_map, List.length_append]; rfl⟩
theorem Way.at {rs ρ : List Road} {t : Nat} (w : Way rs ρ t) : ∀ i r, ρ[i]? = some r → r ∈ rs ∧ ∃ l1 l2, twn ρ = l1 ++ lowC r.1 :: lowC r.2.1 :: l2 ∧ l1.length = i := by
  induction w with
  | nil => intro i r h; simp at h
  | @snoc ρ t r' w hr he ih =>
    intro i r h
    by_cases hi : i < ρ.length
    · rw [List.getElem?_append_left hi] at h
      obtain ⟨h1, l1, l2, h2, h3⟩ := ih i r h
      exact ⟨h1, l1, l2 ++ [lowC r'.2.1], by rw [twn_snoc, h2, List.append_assoc]; rfl, h3⟩
    · rw [List.getElem?_append_right (by omega)] at h
      have hi2 : i - ρ.length = 0 := by
        cases hq : i - ρ.length with
        | zero => rfl
        | succ n => rw [hq] at h; simp at h
      rw [hi2] at h
      obtain rfl : r' = r := Option.some.inj h
      obtain ⟨l, h1, h2⟩ := w.last
      exact ⟨hr, l, [], by rw [twn_snoc, h1, he, List.append_assoc]; rfl, by omega⟩
theorem pcs_at {ρ : List Road} {i : Nat} {r : Road} (h : ρ[i]? = some r) : pcs (ρ.drop i) = r.2.2.1 ++ pcs (ρ.drop (i + 1)) := by
  obtain ⟨hi, rfl⟩ := List.getElem?_eq_some_iff.mp h
  rw [List.drop_eq_getElem_cons hi, pcs, List.flatMap_cons]; rfl
end Mine

theorem Mine.tt_p_goes : True := by w_top off; exact trivial
namespace Mine
-- LAW 02: _law_goes
def LcAt (P : Prop) : Prop := P
theorem lc_stop {P : Prop} (h : LcAt P) : P := h
theorem in_LL {prog : Program} {w : World} {A : Around} {E : Value → Shared → Prop} {s : Shared} {h₀ : Heap} {L : Addr} {news : List (Addr × Obj)} {l : Addr} {vs : List Value} {ss : List Str} {x : Str} {t : Tok} {k : Nat} {Q : Value → Shared → Prop} (N : News h₀ L s.heap news) (hm : (l, W.listOf vs.toArray k) ∈ news) (hs : StrsAre vs ss) (h : Q (.bool (ss.any (· == x))) s) : wpAny (model prog w) A (compareOp .In (.str x t) (.ref l)) Q E s :=
  in_list_strs (isl N hm) hs.toP h
local macro_rules | `(tactic| walk_at "compareOp In str ref") => Mine.ln `Mine.in_LL 3 0 true "AaBmCs" none 0 0 ""
local macro_rules | `(tactic| walk_at "call builtin:str.lstrip") => `(tactic| (k_here; k_dflt (refine KXw.lstripChars (by assumption) (by rw [sizeLine_eq]; simp only [Mine.st_len]; omega) ?_); intro _ _; (try dsimp only)))
local macro_rules | `(tactic| walk_at "exec Assign cons ListComp") => Mine.ln `Mine.lc_stop 0 0 false "" none 0 0 ""
theorem len_st {prog : Program} {w : World} {A : Around} {E : Value → Shared → Prop} {s : Shared} {l : List Nat} {t : Tok} {Q : Value → Shared → Prop} (hz : l.length ≤ 1000) (h : ∀ t k, Q (.int (l.length : Int) t) {s with toks := k}) : wpAny (model prog w) A (call (.builtin "len") [.str (stOf l) t]) Q E s :=
  PySem.P.len_str (x := stOf l) (by rw [st_len]; omega) (by rw [st_len]; exact h _ _)
local macro_rules | `(tactic| walk_at "call builtin:len") => `(tactic| (k_here; (with_reducible show wpAny _ _ (call (Value.builtin "len") [Value.str (stOf _) _]) _ _ _); k_dflt (refine Mine.len_st (by first | omega | (simp only [List.length_cons, List.length_append, List.length_map]; omega)) ?_); intro _ _; (try dsimp only)))
local macro_rules | `(tactic| walk_at "call builtin:str.lower") => `(tactic| (k_here; k_dflt (refine KXw.lower (by assumption) (PyProof.Rows.fit_lower (by first | assumption | (simp only [Mine.apS_len, Mine.st_len, List.length_cons, List.length_append, List.length_nil]; omega))) ?_); intro _ _; (try dsimp only)))
abbrev goMap (l : Addr) (t : Nat) (ut : Tok) (ρ : List Road) (tt : Tok) : Str → Option Value :=
  mput "rests" (some (.ref l)) (mput "town" (some (.str (stOf [t]) ut)) (mput "told" (some (.str (stOf (strW ρ)) tt)) mnil))
def goNames : List Str := ["rests", "town", "told"]
inductive GoJ (c1 c2 c3 : Addr) (o2 o3 : Obj) (T : List (Addr × Obj)) (t : Nat) (ut : Tok) (ρ : List Road) (tt : Tok) (i : Nat) (m₁ : Str → Option Value) (nx : List (Addr × Obj)) : Prop where
  | mk l rvs kr (xs : List (List Nat)) o1 w1 (h0 : m₁ = goMap l t ut ρ tt) (h1 : nx = (l, W.listOf (rvs : List Value).toArray kr) :: (c3, o1) :: (c2, o2) :: (c1, o3) :: T) (hc : o1.data = .cell w1) (hs : StrsAre rvs (xs.map stOf)) (hb : xs.length ≤ 8 ^ i) (hx : ∀ x ∈ xs, x.length ≤ 6) (hm : pcs (ρ.drop i) ∈ xs) (ho : OwnOff ((c3, o1) :: (c2, o2) :: (c1, o3) :: T) [l]) : GoJ c1 c2 c3 o2 o3 T t ut ρ tt i m₁ nx
inductive TwJ (n i0 j0 : Nat) (good : List Nat) (i j : Nat) (ys : List Value) : Prop where
  | mk (xs : List (List Nat)) (hs : StrsAre ys (xs.map stOf)) (hb : xs.length ≤ i * n + j) (hx : ∀ x ∈ xs, x.length ≤ 6) (hm : (i0 < i ∨ (i0 = i ∧ j0 < j)) → good ∈ xs) : TwJ n i0 j0 good i j ys
theorem StrsAre.sn {ys : List Value} {xs : List (List Nat)} {x : List Nat} {t : Tok} (h : StrsAre ys (xs.map stOf)) : StrsAre (ys ++ [.str (stOf x) t]) ((xs ++ [x]).map stOf) := by
  rw [List.map_append]; exact h.snoc
theorem pcs_len6 : ∀ {ρ : List Road}, (∀ r ∈ ρ, RoadOk r) → ρ.length ≤ 3 → (pcs ρ).length ≤ 6 := by
  have key : ∀ {ρ : List Road}, (∀ r ∈ ρ, RoadOk r) → (pcs ρ).length ≤ 2 * ρ.length := by
    intro ρ
    induction ρ with
    | nil => exact fun _ => Nat.le_refl _
    | cons r ρ ih =>
      intro h
      have h1 := ih fun x hx => h x (.tail _ hx)
      have h2 := (h r (.head _)).2.2.2
      rw [pcs] at h1 ⊢
      rw [List.flatMap_cons, List.length_append, List.length_cons]
      omega
  intro ρ h hl
  have := key h
  omega
section
variable {w : World} {dp un : Nat} {gd : Option (List Code)} {cn : Str} {cs : Scope} {a : Addr} {ccd : Value} {cl : List (Str × Addr)} {outer : List Env} {A₀ : Around} {base h₀ : Heap} {L : Addr} {m mg mb : Str → Option Value} {p : Program} {loose : List Str} {mean : ExcName → Option Value} {s : Shared} {Q E : Value → Shared → Prop} {news : List (Addr × Obj)}
theorem goes_call {ld : Addr} {lvs : List Value} {kl : Nat} {tl : List (Addr × Obj)} {rs ρ : List Road} {t : Nat} {tt ut : Tok} (B : Below A₀ base outer h₀) (F : Fr h₀ L s.heap m) (X : (Mine.hdm.heap_1 w.params).In h₀) (N : News h₀ L s.heap news) (T₀ : Top p loose mean mg mb h₀) (hk : cs.kind = .function) (hd : dp + 20 < recursionLimit)
  (hCd : CodeHd h₀ 312 308) (hsub : ∀ q ∈ (ld, W.listOf lvs.toArray kl) :: tl, q ∈ news) (hin : All2 (RoE tl) lvs rs) (hz : rs.length ≤ 8) (hok : ∀ r ∈ rs, RoadOk r) (hw : Way rs ρ t) (hl : ρ.length ≤ 3)
  (ret : ∀ h' tk', Fr h₀ L h' m → News h₀ L h' news → Q (.bool true) {s with heap := h', toks := tk'}) :
  wpAny (model PySem.Challenge.pw_pg0318_02 w) (ktrTop dp un gd cn cs L a ccd cl outer) (call (.ref 337) [.ref ld, .str (stOf (strW ρ)) tt, .str (stOf [t]) ut]) Q E s := by
  refine wpAny_call ?_
  have N₁ := News.sub N hsub
  have hll := hin.length
  have hlz : lvs.length ≤ 8 := by omega
  have hC₂ := hCd
  kc_enter
  intro g L' h₂ tk₂ cells hgs hgk hgn F₂ N₂ Y₂ B₂ X₂ T₂ l1
  replace hC₂ : CodeHd g 312 308 := hC₂.keeps fun b o e => hgk _ _ (F.keep _ _ e) fun q => by
    obtain ⟨p9, hp9, rfl⟩ := List.mem_map.mp q
    rw [(N _ (hsub p9 hp9)).2.2] at e; cases e
  clear hgs hgn B N₁
  change Fr g L' h₂ (mput "town" (some (.str (stOf [t]) ut)) (mput "told" (some (.str (stOf (strW ρ)) tt)) mnil)) at F₂
  obtain ⟨oc1, oc2, oc3, hE, dc1, dc2, dc3⟩ := CellsAre.three Y₂
  subst hE
  clear Y₂
  k_lt l1
  change oc1.data = .cell none at dc1
  change oc2.data = .cell none at dc2
  change oc3.data = .cell (some (.ref ld)) at dc3
  simp only [List.cons_append, List.nil_append] at N₂
  have hcc : ∀ q ∈ tl, @LT.lt Nat _ q.1 L' := allLt_mem _ l1.2
  have hcl : OwnOff tl [L' + 1, L' + 1 + 1, L' + 1 + 1 + 1] := ooX (fun q hq => Nat.ne_of_lt (Nat.lt_succ_of_lt (hcc q hq))) (ooX (fun q hq => Nat.ne_of_lt (Nat.lt_succ_of_lt (Nat.lt_succ_of_lt (hcc q hq)))) (ooX (fun q hq => Nat.ne_of_lt (Nat.lt_succ_of_lt (Nat.lt_succ_of_lt (Nat.lt_succ_of_lt (hcc q hq))))) oo0))
  have hro := hw.ok hok
  have hpb := pcs_blank hro
  have hpl : (pcs ρ).length ≤ 6 := pcs_len6 hro hl
  obtain ⟨lt, hlt⟩ : ∃ lt, lt = ρ.map fun r => r.2.1 := ⟨_, rfl⟩
  have hltl : lt.length ≤ 3 := by rw [hlt, List.length_map]; exact hl
  have hstr : strW ρ = pcs ρ ++ 97 :: lt := by rw [hlt]; rfl
  have hsl : (strW ρ).length = (pcs ρ).length + (lt.length + 1) := by rw [hstr, List.length_append, List.length_cons]
  have hls : Txt.lstripChars (stOf (strW ρ)) (Str.ofString " \t") = stOf (97 :: lt) := by rw [hstr]; exact lstrip_st hpb (by decide) (by decide)
  have hLet : ∀ c ∈ 97 :: lt, Let c := List.forall_mem_cons.mpr ⟨.inr ⟨by decide, by decide⟩, fun c hc => by
    rw [hlt] at hc
    obtain ⟨r, hr, rfl⟩ := List.mem_map.mp hc
    exact (hro r hr).2.1⟩
  obtain ⟨lw, hlw⟩ : ∃ lw, lw = lt.map lowC := ⟨_, rfl⟩
  have hlwl : lw.length = ρ.length := by rw [hlw, hlt, List.length_map, List.length_map]
  have hlow : Txt.lower (stOf (97 :: lt)) = stOf (97 :: lw) := by rw [low_st hLet, hlw]; rfl
  have hr0 : Txt.slice (stOf (strW ρ)) none (some (((strW ρ).length : Int) - ((97 :: lt).length : Int))) = stOf (pcs ρ) := by
    rw [show ((strW ρ).length : Int) - ((97 :: lt).length : Int) = ((pcs ρ).length : Int) by rw [hsl, List.length_cons]; omega, hstr]
    exact sl_to _ _ rfl
  try dsimp only
  show wpAny _ _ _ _ _ _
  k_fold
  try (refine Mine.set_walk ?_; intro A₉ e₉)
  k_steps
  rename Fr _ _ _ _ => Fn
  rename News _ _ _ _ => Nn
  rename IsRange _ _ _ _ _ _ _ _ => hrg
  rename_i l _ ll _ _ _ _ _ o2 F8 N8 d2 _ _ _ _ _ _ _ _
  clear F8 N8
  rw [hr0] at Nn
  obtain ⟨ll3, ll2, ll1, ll0, llT⟩ := ll
  replace llT := allLt_mem _ llT
  have hcT : OwnOff ((ld, W.listOf lvs.toArray kl) :: tl) [L' + 1, L' + 1 + 1, L' + 1 + 1 + 1] := ooC (fa3 (Nat.ne_of_lt (Nat.lt_succ_of_lt l1.1)) (Nat.ne_of_lt (Nat.lt_succ_of_lt (Nat.lt_succ_of_lt l1.1))) (Nat.ne_of_lt (Nat.lt_succ_of_lt (Nat.lt_succ_of_lt (Nat.lt_succ_of_lt l1.1))))) hcl
  refine' Mine.range_J (GoJ (L' + 1) (L' + 1 + 1) (L' + 1 + 1 + 1) o2 oc3 ((ld, W.listOf lvs.toArray kl) :: tl) t ut ρ tt) ?hh hrg ?ha ?hb Fn Nn ?hj ?turn ?done ?ht
  case hh => rfl
  case ht => intro _ _; rfl
  case ha => omega
  case hb => rw [List.length_cons]; omega
  case hj =>
    exact ⟨l, _, 0, [pcs ρ], oc1, none, mext goNames ⟨rfl, rfl, rfl, trivial⟩ (by intro y hy; simp only [Off, goNames] at hy; simp [goMap, mput, mnil, hy]), rfl, dc1, .cons .nil, Nat.le_refl _, fun x hx => by rw [List.mem_singleton.mp hx]; exact hpl, .head _, ooC (fun r hr => by rw [List.mem_singleton.mp hr]; exact Nat.ne_of_lt ll3) (ooC (fun r hr => by rw [List.mem_singleton.mp hr]; exact Nat.ne_of_lt ll2) (ooC (fun r hr => by rw [List.mem_singleton.mp hr]; exact Nat.ne_of_lt ll1) (ooC (fun r hr => by rw [List.mem_singleton.mp hr]; exact Nat.ne_of_lt ll0) (ooX (fun q hq => Nat.ne_of_lt (llT q hq)) oo0))))⟩
  case done =>
    rintro m₁ nx h tk ⟨l, rvs, kr, xs, o1, w1, rfl, rfl, hc, hs, hb, hx, hm, ho⟩ F₃ N₃
    rw [show (((97 :: lw).length : Int) - 1).toNat = ρ.length by rw [List.length_cons, hlwl]; omega, List.drop_length] at hm
    clear Fn Nn hrg
    obtain ⟨l9, hl9, _⟩ := hw.last
    have htw : twn ρ = 97 :: lw := by rw [twn, hlw, hlt]
    rw [htw] at hl9
    have hA : (Txt.slice (stOf (97 :: lw)) none (some 1) == Str.ofString "a") = true := by
      rw [show Txt.slice (stOf (97 :: lw)) none (some 1) = stOf [97] from sl_to [97] lw (n := 1) rfl]; decide +kernel
    have hB : (Txt.slice (stOf (97 :: lw)) (some (-1)) none == stOf [t]) = true := by rw [hl9, sl_last]; simp
    have hC : ((xs.map stOf).any (· == Str.ofString "")) = true := by
      refine List.any_eq_true.mpr ⟨stOf [], List.mem_map.mpr ⟨_, hm, rfl⟩, ?_⟩
      decide +kernel
    k_steps
    rename Fr _ _ _ _ => Fz
    rename News _ _ _ _ => Nz
    obtain ⟨F', N'⟩ := leave_ro F N hsub hgk Fz Nz (List.forall_mem_cons.mpr ⟨.tail _ (.tail _ (.tail _ (.tail _ (.head _)))), fun q hq => .tail _ (.tail _ (.tail _ (.tail _ (.tail _ hq))))⟩)
    rw [hC]
    exact ret _ _ F' N'
  case turn =>
    rintro i u m₁ nx h tk own hi hoff ⟨l, rvs, kr, xs, o1, w1, rfl, rfl, hc, hs, hb, hx, hm, ho⟩ F₃ N₃
    simp only [List.cons_append] at N₃
    clear Fn Nn hrg
    have hown : OwnOff own [L' + 1, L' + 1 + 1, L' + 1 + 1 + 1] := ooN (hoff _ (.tail _ (.tail _ (.tail _ (.head _))))) (ooN (hoff _ (.tail _ (.tail _ (.head _)))) (ooN (hoff _ (.tail _ (.head _))) oo0))
    have hTo : OwnOff (tl ++ own) [L' + 1, L' + 1 + 1, L' + 1 + 1 + 1] := ooA hcl hown
    have hl3 : @Ne Nat l (L' + 1 + 1 + 1) := Ne.symm (ho _ (.head _) _ (.head _))
    obtain ⟨r0, hr0'⟩ : ∃ r0, ρ[i]? = some r0 := ⟨_, List.getElem?_eq_getElem (by rw [List.length_cons, hlwl] at hi; omega)⟩
    obtain ⟨hr0m, a1, a2, htw, ha1⟩ := hw.at i r0 hr0'
    rw [show twn ρ = 97 :: lw by rw [twn, hlw, hlt]] at htw
    have hmid : Txt.slice (stOf (97 :: lw)) (some (1 + (i : Int) - 1)) (some (1 + (i : Int) + 1)) = stOf [lowC r0.1, lowC r0.2.1] := by
      rw [htw]; exact sl_mid a1 a2 _ _ (by omega) (by omega)
    obtain ⟨j0, hj0⟩ := List.getElem?_of_mem hr0m
    obtain ⟨i0, hi0⟩ := List.getElem?_of_mem hm
    have hpc := pcs_at hr0'
    have hi3 : i < 3 := by rw [List.length_cons, hlwl] at hi; omega
    have hxl : xs.length ≤ 64 := Nat.le_trans hb (Nat.pow_le_pow_right (by decide) (show i ≤ 2 by omega))
    have hrvl : rvs.length = xs.length := by rw [hs.length, List.length_map]
    k_steps
    rename Fr _ _ _ _ => Fn
    rename News _ _ _ _ => Nn
    rename_i o1n d1n
    unfold Mine.LcAt
    obtain ⟨nw, hnw⟩ : ∃ nw, nw = (l, W.listOf rvs.toArray kr) :: (L' + 1 + 1 + 1, o1n) :: (L' + 1 + 1, o2) :: (L' + 1, oc3) :: (ld, W.listOf lvs.toArray kl) :: (tl ++ own) := ⟨_, rfl⟩
    have n0 : (l, W.listOf rvs.toArray kr) ∈ nw := by rw [hnw]; exact .head _
    have n1 : (L' + 1 + 1 + 1, o1n) ∈ nw := by rw [hnw]; exact .tail _ (.head _)
    have n2 : (L' + 1 + 1, o2) ∈ nw := by rw [hnw]; exact .tail _ (.tail _ (.head _))
    have n3 : (L' + 1, oc3) ∈ nw := by rw [hnw]; exact .tail _ (.tail _ (.tail _ (.head _)))
    have n4 : (ld, W.listOf lvs.toArray kl) ∈ nw := by rw [hnw]; exact .tail _ (.tail _ (.tail _ (.tail _ (.head _))))
    have n5 : ∀ q ∈ tl, q ∈ nw := by rw [hnw]; exact fun q hq => .tail _ (.tail _ (.tail _ (.tail _ (.tail _ (List.mem_append_left _ hq)))))
    have n6 : ∀ q ∈ own, q ∈ nw := by rw [hnw]; exact fun q hq => .tail _ (.tail _ (.tail _ (.tail _ (.tail _ (List.mem_append_right _ hq)))))
    rw [← hnw] at Nn
    k_dflt (refine Mine.asg_two (_F := Fn) (by rfl) (by with_unfolding_all rfl) (by with_unfolding_all rfl) (by decide) (by rfl) (by decide) (by rfl) (by rfl) (by rfl) (by rfl) (by rfl) (by decide) (by intro _ _; rfl) (by rfl) (by rfl) ?_)
    k_steps
    have hj0l : j0 < lvs.length := by rw [hll]; exact (List.getElem?_eq_some_iff.mp hj0).1
    have hml : rvs.length * lvs.length ≤ 900 := Nat.le_trans (Nat.mul_le_mul (show rvs.length ≤ 64 by omega) hlz) (by decide)
    refine ⟨l, rvs, kr, ld, lvs, kl, nw, TwJ lvs.length i0 j0 (pcs (ρ.drop (i + 1))), rfl, rfl, Fn, Nn, n0, n4, ⟨hml, by omega, by omega⟩, ⟨[], .nil, Nat.zero_le _, fun _ h => (nomatch h), fun h => absurd h (by omega)⟩, ?row, ?it, ?tturn, ?fin⟩
    case row =>
      rintro i1 ys ⟨xs1, hs1, hb1, hx1, hm1⟩
      exact ⟨xs1, hs1, by rw [Nat.succ_mul]; omega, hx1, fun h => hm1 (by omega)⟩
    case it =>
      intro I oI C oC D ys m₂ h tk E' hC F₄ N₄
      clear Fn Nn
      k_steps

    case tturn =>
      rintro i1 j1 v w0 ys hv hw0 ⟨xs1, hs1, hb1, hx1, hm1⟩
      clear Fn Nn
      obtain ⟨x', t', rfl, hx'⟩ := hs.get hv
      rw [List.getElem?_map] at hx'
      obtain ⟨x, hxi, rfl⟩ := Option.map_eq_some_iff.mp hx'
      have hj1 : j1 < rs.length := by rw [← hll]; exact (List.getElem?_eq_some_iff.mp hw0).1
      obtain ⟨r1, hr1⟩ : ∃ r, rs[j1]? = some r := ⟨_, List.getElem?_eq_getElem hj1⟩
      obtain ⟨v', hv', t9, ta, tb, tc, td, rfl, hm9⟩ := hin.get hr1
      obtain rfl : w0 = .ref t9 := Option.some.inj (hw0.symm.trans hv')
      have hro1 := hok r1 (List.mem_of_getElem? hr1)
      have hxl6 := hx x (List.mem_of_getElem? hxi)
      have hlo : Txt.lower (stOf [r1.1] ++ stOf [r1.2.1]) = stOf [lowC r1.1, lowC r1.2.1] := low_st (l := [r1.1, r1.2.1]) (List.forall_mem_cons.mpr ⟨hro1.1, List.forall_mem_cons.mpr ⟨hro1.2.1, fun _ h => nomatch h⟩⟩)
      have hpl1 := hro1.2.2.2
      refine ⟨t9, _, _, _, _, rfl, n5 _ hm9, ?_⟩
      intro I oI C D I2 oC oI2 m₂ h tk E' hC hxm hm1' hm2' hm3' hm4' F₄ N₄ off ne
      k_steps
      · rename Fr _ _ _ _ => Fz
        rename News _ _ _ _ => Nz
        rw [sl_drop]
        refine CmpEnd.intro _ Fz Nz sub_self off ⟨rfl, xs1 ++ [x.drop r1.2.2.1.length], hs1.sn, ?_, ?_, ?_⟩
        · rw [List.length_append, List.length_singleton]; omega
        · intro y hy
          rcases List.mem_append.mp hy with hy | hy
          · exact hx1 y hy
          · rw [List.mem_singleton.mp hy, List.length_drop]; omega
        · intro h9
          by_cases hq : i0 < i1 ∨ (i0 = i1 ∧ j0 < j1)
          · exact List.mem_append_left _ (hm1 hq)
          · obtain rfl : i0 = i1 := by omega
            obtain rfl : j0 = j1 := by omega
            obtain rfl : pcs (ρ.drop i) = x := Option.some.inj (hi0.symm.trans hxi)
            obtain rfl : r0 = r1 := Option.some.inj (hj0.symm.trans hr1)
            rw [hpc, List.drop_left]
            exact List.mem_append_right _ (.head _)
      · rename Fr _ _ _ _ => Fz
        rename News _ _ _ _ => Nz
        have hne := ‹(Txt.slice (stOf x) none (some (r1.2.2.1.length : Int)) == stOf r1.2.2.1) = false›
        refine CmpEnd.intro _ Fz Nz sub_self off ⟨rfl, xs1, hs1, by omega, hx1, fun h9 => ?_⟩
        by_cases hq : i0 < i1 ∨ (i0 = i1 ∧ j0 < j1)
        · exact hm1 hq
        · exfalso
          obtain rfl : i0 = i1 := by omega
          obtain rfl : j0 = j1 := by omega
          obtain rfl : pcs (ρ.drop i) = x := Option.some.inj (hi0.symm.trans hxi)
          obtain rfl : r0 = r1 := Option.some.inj (hj0.symm.trans hr1)
          rw [sl_take, hpc, List.take_left] at hne
          simp at hne
      · rename Fr _ _ _ _ => Fz
        rename News _ _ _ _ => Nz
        have hne := ‹(stOf [lowC r1.1, lowC r1.2.1] == Txt.slice (stOf (97 :: lw)) (some (1 + (i : Int) - 1)) (some (1 + (i : Int) + 1))) = false›
        refine CmpEnd.intro _ Fz Nz sub_self off ⟨rfl, xs1, hs1, by omega, hx1, fun h9 => ?_⟩
        by_cases hq : i0 < i1 ∨ (i0 = i1 ∧ j0 < j1)
        · exact hm1 hq
        · exfalso
          obtain rfl : i0 = i1 := by omega
          obtain rfl : j0 = j1 := by omega
          obtain rfl : r0 = r1 := Option.some.inj (hj0.symm.trans hr1)
          rw [hmid] at hne
          simp at hne
    case fin =>
      rintro g9 ys ⟨xs1, hs1, hb1, hx1, hm1⟩
      clear Fn Nn
      k_steps
      rename Fr _ _ _ _ => Fz
      rename News _ _ _ _ => Nz
      rename_i D9 _ _ o9
      replace o9 := off1_mem o9
      refine JEnd.intro ((D9, LCg.lst ys) :: (L' + 1 + 1 + 1, o1n) :: (L' + 1 + 1, o2) :: (L' + 1, oc3) :: (ld, W.listOf lvs.toArray kl) :: tl) Fz Nz ?e1 ?e2 ?e3 ⟨D9, ys, ys.length, xs1, o1n, _, mext goNames ⟨rfl, rfl, rfl, trivial⟩ (by intro y hy; simp only [Off, goNames] at hy; simp [goMap, mput, mnil, hy]), rfl, d1n, hs1, ?e4, hx1, hm1 (.inl ?e5), ?e6⟩
      case e1 => exact sub_cons (.head _) (sub_cons (.tail _ n1) (sub_cons (.tail _ n2) (sub_cons (.tail _ n3) (sub_cons (.tail _ n4) fun q hq => .tail _ (n5 q hq)))))
      case e2 => exact fun q hq => .tail _ (n6 q hq)
      case e3 =>
        refine List.forall_mem_cons.mpr ⟨fun q hq => (o9 q (n6 q hq)).symm, List.forall_mem_cons.mpr ⟨hoff (L' + 1 + 1 + 1, o1) (.tail _ (.head _)), fun p hp => hoff p (.tail _ (.tail _ hp))⟩⟩
      case e4 =>
        rw [Nat.pow_succ]
        exact Nat.le_trans hb1 (Nat.mul_le_mul (by omega) hlz)
      case e5 => rw [hrvl]; exact (List.getElem?_eq_some_iff.mp hi0).1
      case e6 => exact ooX (List.forall_mem_cons.mpr ⟨o9 _ n1, List.forall_mem_cons.mpr ⟨o9 _ n2, List.forall_mem_cons.mpr ⟨o9 _ n3, List.forall_mem_cons.mpr ⟨o9 _ n4, fun q hq => o9 q (n5 q hq)⟩⟩⟩⟩) oo0
end
end Mine

theorem Mine.tt_p_agree : True := by w_top off; exact trivial
namespace Mine
-- LAW 02: _law_agree
theorem call_stop {P : Prop} (h : LcAt P) : P := h
local macro_rules | `(tactic| walk_at "call ref") => Mine.ln `Mine.call_stop 0 0 false "" none 332 1 ""
local macro_rules | `(tactic| walk_at "call ref") => Mine.ln `Mine.call_stop 0 0 false "" none 337 1 ""
local macro_rules | `(tactic| walk_at "binaryOp Mult ref int") => Mine.ln `Mine.call_stop 0 0 false "" none 0 0 ""
local macro_rules | `(tactic| walk_at "compareOp Eq ref ref") => Mine.ln `Mine.call_stop 0 0 false "" none 0 0 ""
theorem eq_BB {prog : Program} {w : World} {A : Around} {E : Value → Shared → Prop} {s : Shared} {h₀ : Heap} {L : Addr} {news : List (Addr × Obj)} {l b : Addr} {k k2 : Nat} {Q : Value → Shared → Prop} (N : News h₀ L s.heap news) (m1 : (l, W.listOf ([.bool true, .bool true, .bool true, .bool true] : List Value).toArray k) ∈ news) (m2 : (b, W.listOf ([.bool true, .bool true, .bool true, .bool true] : List Value).toArray k2) ∈ news) (hU : A.units + 64 < cLine)
    (h : Q (.bool true) s) : wpAny (model prog w) A (compareOp .Eq (.ref l) (.ref b)) Q E s :=
  eq_dataH_same (da := .list [.bool true, .bool true, .bool true, .bool true]) (db := .list [.bool true, .bool true, .bool true, .bool true]) (Reads.list (N _ m1).1 rfl rfl (.cons (Reads.bool true) (.cons (Reads.bool true) (.cons (Reads.bool true) (.cons (Reads.bool true) .nil))))) (Reads.list (N _ m2).1 rfl rfl (.cons (Reads.bool true) (.cons (Reads.bool true) (.cons (Reads.bool true) (.cons (Reads.bool true) .nil))))) (by decide +kernel) (by decide +kernel) hU (by decide +kernel) (by
    rw [show PySem.Spec.same (.list [.bool true, .bool true, .bool true, .bool true]) (.list [.bool true, .bool true, .bool true, .bool true]) = true by decide +kernel]; exact h)
local macro_rules | `(tactic| walk_at "exec If") => Mine.ln `Mine.if_stop 0 0 false "" none 0 0 ""
local macro_rules | `(tactic| walk_at "eval ListComp") => Mine.ln `Mine.lc_stop 0 0 false "" none 0 0 ""
local macro_rules | `(tactic| walk_at "lcR") => `(tactic| (k_here; k_dflt (refine Mine.comp_R (F₀ := by k_asm) (by with_unfolding_all rfl) (by decide) (by rfl) (by decide) (by rfl) ?_)))
local macro_rules | `(tactic| walk_at "subscriptTail Name Name ref int") => Mine.ln `Mine.item_L 5 0 true "AaBmCoDoEs" none 0 0 ""
local macro_rules | `(tactic| walk_at "subscriptTail Subscript Name Name Name ref int") => Mine.ln `Mine.item_L 5 0 true "AaBmCoDoEs" none 0 0 ""
local macro_rules | `(tactic| walk_at "subscriptTail Subscript Name Constant Name ref int") => Mine.ln `Mine.item_L 5 0 true "AaBmCoDoEs" none 0 0 ""
local macro_rules | `(tactic| walk_at "subscriptTail Name Constant ref int") => Mine.ln `Mine.item_L 5 0 true "AaBmCdDdEs" none 0 0 ""
local macro_rules | `(tactic| walk_at "α") => `(tactic| first | assumption | (simp only [Mine.st_len]; omega))
local macro_rules | `(tactic| walk_at "call ref") => Mine.ln `Mine.ws_callW 9 0 false "AaBaCaDaEaFkIαGrHu" none 142 11 "Iabcdefghijklmnopqrstuv Ls Mt Mu Mv D F"
local macro_rules | `(tactic| walk_at "β") => `(tactic| (refine Mine.WsIn.mono (by assumption) ?_; (refine Mine.sub_cons ?_ (Mine.sub_cons ?_ (Mine.sub_cons ?_ (Mine.sub_cons ?_ Mine.sub_nil)))) <;> k_mem))
local macro_rules | `(tactic| walk_at "call ref") => Mine.ln `Mine.indent_callZ 10 0 false "AaBaCaDaEaFkHβIsJsGr" none 111 11 "Iabcde D F"
abbrev agMap (v1 v2 v3 v4 v5 : Option Value) (D : Addr) (size : Nat) (tsz : Tok) : Str → Option Value :=
  mput "level" v1 (mput "way" v2 (mput "due" v3 (mput "place" v4 (mput "turn" v5 (mput "tables" (some (.ref D)) (mput "size" (some (.int (size : Int) tsz)) mnil))))))
def agNames : List Str := ["level", "way", "due", "place", "turn", "tables", "size"]
inductive AgJ (mm : Option Value → Option Value → Option Value → Option Value → Option Value → Str → Option Value) (U : List (Addr × Obj)) (i : Nat) (m₁ : Str → Option Value) (nx : List (Addr × Obj)) : Prop where
  | mk v1 v2 v3 v4 v5 (h0 : m₁ = mm v1 v2 v3 v4 v5) (h1 : nx = U) : AgJ mm U i m₁ nx
section
variable {w : World} {dp un : Nat} {gd : Option (List Code)} {cn : Str} {cs : Scope} {a : Addr} {ccd : Value} {cl : List (Str × Addr)} {outer : List Env} {A₀ : Around} {base h₀ : Heap} {L : Addr} {m mg mb : Str → Option Value} {p : Program} {loose : List Str} {mean : ExcName → Option Value} {s : Shared} {Q E : Value → Shared → Prop} {news : List (Addr × Obj)}
theorem agree_call {ld td : Addr} {lvs tvs : List Value} {kl kt : Nat} {TR TT : List (Addr × Obj)} {rs : List Road} {size : Nat} {tsz : Tok} (B : Below A₀ base outer h₀) (F : Fr h₀ L s.heap m) (X : (Mine.hdm.heap_1 w.params).In h₀) (N : News h₀ L s.heap news) (T₀ : Top p loose mean mg mb h₀) (hk : cs.kind = .function) (hd : dp + 60 < recursionLimit) (hu : un + 100 < cLine)
  (hCd : CodeHd h₀ 312 308) (hsub : ∀ q ∈ (ld, W.listOf lvs.toArray kl) :: (td, W.listOf tvs.toArray kt) :: TT, q ∈ news) (hTR : ∀ q ∈ TR, q ∈ TT) (hof : OwnOff TR [ld]) (hin : All2 (RoE TR) lvs rs) (ht : All2 (RowE TT) tvs (rowsAt size rs 4)) (hz : rs.length ≤ 8) (hrs : ∀ r ∈ rs, RoadOk r) (hsz : 1 ≤ size ∧ size ≤ 4)
  (hA : ∀ k p due, k < 4 → p < 4 → (hrAt size rs (k + 1)).getD p none = some due → ∃ v, bget (ride size rs (k + 1)).1 (97 + p) = some v ∧ WayOk v ∧ lev size v ≤ (due : Int) ∧ (k = 3 → lev size v = (due : Int)))
  (hG : ∀ p, p < 4 → ∃ ρ, bget (ride size rs 4).1 (97 + p) = some (strW ρ) ∧ Way rs ρ (97 + p) ∧ ρ.length ≤ 3)
  (ret : ∀ h' tk', Fr h₀ L h' m → News h₀ L h' news → Q (.bool true) {s with heap := h', toks := tk'}) :
  wpAny (model PySem.Challenge.pw_pg0318_02 w) (ktrTop dp un gd cn cs L a ccd cl outer) (call (.ref 342) [.ref ld, .ref td, .int (size : Int) tsz]) Q E s := by
  refine wpAny_call ?_
  have N₁ := News.sub N hsub
  have hC₂ := hCd
  kc_enter
  intro g L' h₂ tk₂ cells hgs hgk hgn F₂ N₂ Y₂ B₂ X₂ T₂ l1
  replace hC₂ : CodeHd g 312 308 := hC₂.keeps fun b o e => hgk _ _ (F.keep _ _ e) fun q => by
    obtain ⟨p9, hp9, rfl⟩ := List.mem_map.mp q
    rw [(N _ (hsub p9 hp9)).2.2] at e; cases e
  clear hgs hgn B N₁
  change Fr g L' h₂ (mput "size" (some (.int (size : Int) tsz)) mnil) at F₂
  obtain ⟨oc1, oc2, hE, dc1, dc2⟩ := CellsAre.two Y₂
  subst hE
  clear Y₂
  k_lt l1
  change oc1.data = .cell (some (.ref td)) at dc1
  change oc2.data = .cell (some (.ref ld)) at dc2
  simp only [List.cons_append, List.nil_append] at N₂
  try dsimp only
  show wpAny _ _ _ _ _ _
  k_fold
  try (refine Mine.set_walk ?_; intro A₉ e₉)
  k_steps
  unfold Mine.LcAt
  refine' Mine.hours_call (tl := TR) ?k1 ?k2 ?k3 ?k4 ?k5 ?kK ?kd ?ks ?ko ?ki ?kz ?kr ?kq ?hret
  case k1 => k_asm
  case k2 => exact F₂
  case k3 => k_asm
  case k4 => exact N₂
  case k5 => k_asm
  case kK => first | exact rfl | assumption
  case kd => ktr_room
  case ks => exact sub_cons (.tail _ (.tail _ (.head _))) fun q hq => .tail _ (.tail _ (.tail _ (.tail _ (hTR q hq))))
  case ko => exact hof
  case ki => exact hin
  case kz => exact hz
  case kr => exact hrs
  case kq => exact hsz
  case hret =>
  intro D vs k' T h3 tk3 F3 N3 hv
  have hvl := hv.length
  rw [List.length_map, List.length_range] at hvl
  have htl := ht.length
  rw [rowsAt, List.length_map, List.length_range] at htl
  obtain ⟨U, hU⟩ : ∃ U, U = (D, W.listOf vs.toArray k') :: (T ++ (L' + 1 + 1, oc1) :: (L' + 1, oc2) :: (ld, W.listOf lvs.toArray kl) :: (td, W.listOf tvs.toArray kt) :: TT) := ⟨_, rfl⟩
  have mD : (D, W.listOf vs.toArray k') ∈ U := by rw [hU]; exact .head _
  have mT : ∀ q ∈ T, q ∈ U := fun q hq => by rw [hU]; exact .tail _ (List.mem_append_left _ hq)
  have m1 : (L' + 1 + 1, oc1) ∈ U := by rw [hU]; exact .tail _ (List.mem_append_right _ (.head _))
  have m2 : (L' + 1, oc2) ∈ U := by rw [hU]; exact .tail _ (List.mem_append_right _ (.tail _ (.head _)))
  have m3 : (ld, W.listOf lvs.toArray kl) ∈ U := by rw [hU]; exact .tail _ (List.mem_append_right _ (.tail _ (.tail _ (.head _))))
  have m4 : (td, W.listOf tvs.toArray kt) ∈ U := by rw [hU]; exact .tail _ (List.mem_append_right _ (.tail _ (.tail _ (.tail _ (.head _)))))
  have mTT : ∀ q ∈ TT, q ∈ U := fun q hq => by rw [hU]; exact .tail _ (List.mem_append_right _ (.tail _ (.tail _ (.tail _ (.tail _ hq)))))
  rw [← hU] at N3
  clear hU N₂ F₂
  dsimp only
  k_steps
  rename Fr _ _ _ _ => Fn
  rename News _ _ _ _ => Nn
  rename IsRange _ _ _ _ _ _ _ _ => hrg
  refine' Mine.range_J (AgJ (fun v1 v2 v3 v4 v5 => agMap v1 v2 v3 v4 v5 D size tsz) U) ?hh hrg ?ha ?hb Fn Nn ?hj ?turn ?done ?ht
  case hh => rfl
  case ht => intro _ _; rfl
  case ha => omega
  case hb => omega
  case hj => exact ⟨none, none, none, none, none, mext agNames ⟨rfl, rfl, rfl, rfl, rfl, rfl, rfl, trivial⟩ (by intro y hy; simp only [Off, agNames] at hy; simp [agMap, mput, mnil, hy]), rfl⟩
  case done =>
    rintro m₁ nx h tk ⟨v1, v2, v3, v4, v5, rfl, rfl⟩ F₃ N₃
    clear Fn Nn hrg
    k_steps
    unfold Mine.LcAt
    walk_at "lcR"
    k_steps
    rename Fr _ _ _ _ => Fn
    rename News _ _ _ _ => Nn
    rename IsRange _ _ _ _ _ _ _ _ => hrg
    have hrow2 : (rowsAt size rs 4)[3]? = some (rowAt size rs 4) := rfl
    obtain ⟨_, hv2, tt2, us2, kk2, rfl, mt2, hus2⟩ := ht.get hrow2
    have n2 : (tt2, W.listOf us2.toArray kk2) ∈ nx := mTT _ mt2
    refine' Mine.srcR_L 4 (fun i2 ys2 => ys2 = List.replicate i2 (.bool true)) rfl Fn Nn hrg (by decide) (by decide) rfl rfl ?step ?fin
    case step =>
      intro i2 ys2 u2 I oI C oC D2 mC h2 tk2 E2 hi2 hJ2 hC2 hx2 F4 N4 off2 ne2
      clear Fn Nn hrg
      obtain ⟨ρ, hbr, hwy, hρl⟩ := hG i2 hi2
      have hab : ([97, 98, 99, 100] : List Nat)[i2]? = some (97 + i2) := by
        match i2, hi2 with
        | 0, _ => rfl
        | 1, _ => rfl
        | 2, _ => rfl
        | 3, _ => rfl
      have hit : Txt.item (Str.ofString "abcd") (0 + (i2 : Int)) = stOf [97 + i2] := by
        match i2, hi2 with
        | 0, _ => decide +kernel
        | 1, _ => decide +kernel
        | 2, _ => decide +kernel
        | 3, _ => decide +kernel
      have hb : (rowAt size rs 4)[i2]? = some (some (strW ρ)) := by rw [rowAt, List.getElem?_map, hab, ← hbr]; rfl
      obtain ⟨_, hx2', hE2⟩ := hus2.get hb
      obtain ⟨tw, rfl⟩ := opt_some hE2
      have q4 : us2[((0 : Int) + (i2 : Int)).toNat]? = some (.str (stOf (strW ρ)) tw) := by rw [show ((0 : Int) + (i2 : Int)).toNat = i2 by omega]; exact hx2'
      have q2 : tvs[(3 : Int).toNat]? = some (.ref tt2) := hv2
      k_steps
      unfold Mine.LcAt
      rename Fr _ _ _ _ => Fz
      rename News _ _ _ _ => Nz
      rw [hit]
      refine' Mine.goes_call (tl := TT) ?k1 ?k2 ?k3 ?k4 ?k5 ?kK ?kd ?kC ?ks ?ki ?kz ?kr ?kw ?kl ?gret
      case k1 => k_asm
      case k2 => exact Fz
      case k3 => k_asm
      case k4 => exact Nz
      case k5 => k_asm
      case kK => first | exact rfl | assumption
      case kd => ktr_room
      case kC => exact hC₂
      case ks => exact sub_cons (.tail _ (.tail _ (.tail _ m3))) fun q hq => .tail _ (.tail _ (.tail _ (mTT q hq)))
      case ki => exact hin.mono (RoE.mono hTR)
      case kz => exact hz
      case kr => exact hrs
      case kw => exact hwy
      case kl => exact hρl
      case gret =>
        intro h7 tk7 F7 N7
        dsimp only
        clear Fz Nz
        k_steps
        exact CmpEnd.intro _ F7 N7 sub_self off2 ⟨rfl, by rw [hJ2, List.replicate_succ']⟩
    case fin =>
      intro g9 ys2 hJ2
      clear Fn Nn hrg
      subst hJ2
      k_steps
      unfold Mine.LcAt
      rename Fr _ _ _ _ => Fz
      rename News _ _ _ _ => Nz
      refine' KMa.mul (vs := [.bool true]) (ws := [.bool true, .bool true, .bool true, .bool true]) Fz Nz ?l1 ?l2 ?l3 ?l4 rfl ?l5
      case l1 => exact News.isList Nz (.head _)
      case l2 => decide
      case l3 => decide
      case l4 => decide
      case l5 =>
      intro D4 h7 F7 N7 _
      clear Fz Nz
      k_steps
      unfold Mine.LcAt
      refine' Mine.eq_BB N7 (.tail _ (.tail _ (.head _))) (.head _) ?hU ?_
      case hU => exact Nat.lt_of_le_of_lt (show un + 3 + 64 ≤ un + 100 by omega) hu
      k_steps
      obtain ⟨F', N'⟩ := leave_ro F N hsub hgk F7 N7 (List.forall_mem_cons.mpr ⟨.tail _ (.tail _ (.tail _ m3)), List.forall_mem_cons.mpr ⟨.tail _ (.tail _ (.tail _ m4)), fun q hq => .tail _ (.tail _ (.tail _ (mTT q hq)))⟩⟩)
      exact ret _ _ F' N'
  case turn =>
    rintro i u m₁ nx h tk own hi hoff ⟨v1, v2, v3, v4, v5, rfl, rfl⟩ F₃ N₃
    clear Fn Nn hrg
    obtain ⟨U2, hU2⟩ : ∃ U2, U2 = nx ++ own := ⟨_, rfl⟩
    have e1 := fun q hq => show q ∈ U2 by rw [hU2]; exact List.mem_append_left _ hq
    have e2 := fun q hq => show q ∈ U2 by rw [hU2]; exact List.mem_append_right _ hq
    rw [← hU2] at N₃
    have hi4 : i < 4 := by omega
    k_steps
    rename Fr _ _ _ _ => Fn
    rename News _ _ _ _ => Nn
    rename IsRange _ _ _ _ _ _ _ _ => hrg
    refine' Mine.range_J (AgJ (fun v1 v2 v3 v4 _ => agMap v1 v2 v3 v4 (some (.int (0 + (i : Int)) u)) D size tsz) U2) ?ihh hrg ?iha ?ihb Fn Nn ?ihj ?iturn ?idone ?iht
    case ihh => rfl
    case iht => intro _ _; rfl
    case iha => omega
    case ihb => omega
    case ihj => exact ⟨v1, v2, v3, v4, none, mext agNames ⟨rfl, rfl, rfl, rfl, rfl, rfl, rfl, trivial⟩ (by intro y hy; simp only [Off, agNames] at hy; simp [agMap, mput, mnil, hy]), rfl⟩
    case idone =>
      rintro m₁ nx9 h9 tk9 ⟨w1, w2, w3, w4, _, rfl, rfl⟩ F₇ N₇
      clear Fn Nn hrg
      k_steps
      exact JEnd.intro nx F₇ N₇ e1 e2 hoff ⟨w1, w2, w3, w4, _, rfl, rfl⟩
    case iturn =>
      rintro j u2 m₁ nx9 h9 tk9 own2 hj hoff2 ⟨w1, w2, w3, w4, _, rfl, rfl⟩ F₇ N₇
      clear Fn Nn hrg
      have hj4 : j < 4 := by omega
      have hrow : ((List.range 4).map fun i => hrAt size rs (i + 1))[i]? = some (hrAt size rs (i + 1)) := by rw [List.getElem?_map, List.getElem?_range hi4]; rfl
      obtain ⟨_, hv1, tt1, us1, kk1, rfl, mt1, hus1⟩ := hv.get hrow
      have hrow2 : (rowsAt size rs 4)[i]? = some (rowAt size rs (i + 1)) := by rw [rowsAt, List.getElem?_map, List.getElem?_range hi4]; rfl
      obtain ⟨_, hv2, tt2, us2, kk2, rfl, mt2, hus2⟩ := ht.get hrow2
      obtain ⟨o, ho⟩ : ∃ o, (hrAt size rs (i + 1))[j]? = some o := ⟨_, List.getElem?_eq_getElem (by rw [hrAt_len]; exact hj4)⟩
      obtain ⟨x1, hx1, hO⟩ := hus1.get ho
      have hab : ([97, 98, 99, 100] : List Nat)[j]? = some (97 + j) := by
        match j, hj4 with
        | 0, _ => rfl
        | 1, _ => rfl
        | 2, _ => rfl
        | 3, _ => rfl
      have hb : (rowAt size rs (i + 1))[j]? = some (bget (ride size rs (i + 1)).1 (97 + j)) := by rw [rowAt, List.getElem?_map, hab]; rfl
      obtain ⟨x2, hx2, hE2⟩ := hus2.get hb
      have q1 : vs[((0 : Int) + (i : Int)).toNat]? = some (.ref tt1) := by rw [show ((0 : Int) + (i : Int)).toNat = i by omega]; exact hv1
      have q2 : tvs[((0 : Int) + (i : Int)).toNat]? = some (.ref tt2) := by rw [show ((0 : Int) + (i : Int)).toNat = i by omega]; exact hv2
      have q3 : us1[((0 : Int) + (j : Int)).toNat]? = some x1 := by rw [show ((0 : Int) + (j : Int)).toNat = j by omega]; exact hx1
      have q4 : us2[((0 : Int) + (j : Int)).toNat]? = some x2 := by rw [show ((0 : Int) + (j : Int)).toNat = j by omega]; exact hx2
      have n1 : (tt1, W.listOf us1.toArray kk1) ∈ nx9 ++ own2 := List.mem_append_left _ (e1 _ (mT _ mt1))
      have n2 : (tt2, W.listOf us2.toArray kk2) ∈ nx9 ++ own2 := List.mem_append_left _ (e1 _ (mTT _ mt2))
      have n3 : (D, W.listOf vs.toArray k') ∈ nx9 ++ own2 := List.mem_append_left _ (e1 _ mD)
      have n4 : (td, W.listOf tvs.toArray kt) ∈ nx9 ++ own2 := List.mem_append_left _ (e1 _ m4)
      have n5 : (L' + 1 + 1, oc1) ∈ nx9 ++ own2 := List.mem_append_left _ (e1 _ m1)
      have fin : ∀ {h' hA tk' tA y1 y2 y3 y4 m'} {all : List (Addr × Obj)}, Fr g L' h' m' → News g L' h' all → (∀ q ∈ nx9 ++ own2, q ∈ all) → m' = agMap y1 y2 y3 y4 (some (.int (0 + (i : Int)) u)) D size tsz → JEnd g L' (AgJ (fun v1 v2 v3 v4 _ => agMap v1 v2 v3 v4 (some (.int (0 + (i : Int)) u)) D size tsz) nx9 (j + 1)) own2 { s with heap := hA, toks := tA } { s with heap := h', toks := tk' } := fun F N hs e =>
        JEnd.intro nx9 F N (fun q hq => hs q (List.mem_append_left _ hq)) (fun q hq => hs q (List.mem_append_right _ hq)) hoff2 ⟨_, _, _, _, none, e, rfl⟩
      k_steps
      refine IfAt.go ?_
      cases hO with
      | none e0 =>
        subst e0
        k_steps
        rename Fr _ _ _ _ => Fz
        rename News _ _ _ _ => Nz
        exact fin (y1 := w1) (y2 := w2) (y3 := some .none) (y4 := some (.int (0 + (j : Int)) u2)) Fz Nz (fun q hq => hq) (mext agNames ⟨rfl, rfl, rfl, rfl, rfl, rfl, rfl, trivial⟩ (by intro y hy; simp only [Off, agNames] at hy; simp [agMap, mput, mnil, hy]))
      | some due td9 e0 =>
        subst e0
        obtain ⟨wy, hbw, hwo, hle, heq⟩ := hA i j due hi4 hj4 (by rw [List.getD_eq_getElem?_getD, ho]; rfl)
        rw [hbw] at hE2
        obtain ⟨tw, rfl⟩ := opt_some hE2
        have hwl : wy.length ≤ 20 := hwo.2.1
        have hz1 : (wsOf (stOf wy)).2.2.2.length ≤ 101 := (wsL_ok (Nat.le_trans hwl (by decide))).1
        have hts : 1 ≤ (size : Int) ∧ (size : Int) ≤ 200 := by omega
        have hle2 : wsLevel (wsOf (stOf wy)) (size : Int).toNat ≤ (due : Int) := hle
        have heq2 : i = 3 → wsLevel (wsOf (stOf wy)) (size : Int).toNat = (due : Int) := heq
        k_steps
        refine IfAt.go ?_
        k_steps
        refine IfAt.go ?_
        k_steps
        · exfalso
          omega
        · rename Fr _ _ _ _ => Fz
          rename News _ _ _ _ => Nz
          exact fin (y1 := some (.int _ _)) (y2 := some (.str (stOf wy) tw)) (y3 := some (.int (due : Int) td9)) (y4 := some (.int (0 + (j : Int)) u2)) Fz Nz (fun q hq => .tail _ (.tail _ (.tail _ (.tail _ hq)))) (mext agNames ⟨rfl, rfl, rfl, rfl, rfl, rfl, rfl, trivial⟩ (by intro y hy; simp only [Off, agNames] at hy; simp [agMap, mput, mnil, hy]))
        · rename Fr _ _ _ _ => Fz
          rename News _ _ _ _ => Nz
          exact fin (y1 := some (.int _ _)) (y2 := some (.str (stOf wy) tw)) (y3 := some (.int (due : Int) td9)) (y4 := some (.int (0 + (j : Int)) u2)) Fz Nz (fun q hq => .tail _ (.tail _ (.tail _ (.tail _ hq)))) (mext agNames ⟨rfl, rfl, rfl, rfl, rfl, rfl, rfl, trivial⟩ (by intro y hy; simp only [Off, agNames] at hy; simp [agMap, mput, mnil, hy]))
end
end Mine

theorem Mine.tt_p_law2 : True := by w_top off; exact trivial
namespace Mine
-- LAW 02: law
theorem hd_id {h : Heap} (x : CodeHd h 312 308) : CodeHd h 312 308 := x
theorem low97 (p : Nat) : lowC (97 + p) = 97 + p := by unfold lowC; rw [if_neg (by omega)]
theorem bget97 (bl : Best) (p : Nat) : bget bl (97 + p) = bgt bl (97 + p) := by rw [bget_t, low97]
theorem size_ok (z : Int) : 1 ≤ 1 + (z + 2).fmod 4 ∧ 1 + (z + 2).fmod 4 ≤ 4 := by
  have h1 := Int.fmod_nonneg_of_pos (z + 2) (show (0 : Int) < 4 by decide)
  have h2 := Int.fmod_lt_of_pos (z + 2) (show (0 : Int) < 4 by decide)
  omega
theorem law_ok {size : Nat} (hs : 1 ≤ size) (sc : List Int) (k p due : Nat) (hk : k < 4) (h : (hrAt size (lawRoads sc) (k + 1)).getD p none = some due) : ∃ v, bget (ride size (lawRoads sc) (k + 1)).1 (97 + p) = some v ∧ WayOk v ∧ lev size v ≤ (due : Int) ∧ (k = 3 → lev size v = (due : Int)) := by
  have hrs : ∀ r ∈ lawRoads sc, RoadOk r := roads_ok
  obtain ⟨v, h1, h2⟩ := told_le hs hrs (k + 1) p due h
  refine ⟨v, by rw [bget97]; exact h1, ?_, h2, fun e => ?_⟩
  · have G := (ride_ok hs hrs (roads_len sc)).start (k + 1) hk
    unfold bgt at h1
    obtain ⟨q, hq, rfl⟩ := Option.map_eq_some_iff.mp h1
    exact (G.ok q (List.mem_of_find?_eq_some hq)).2
  · subst e
    obtain ⟨v', h3, h4⟩ := told_eq hs hrs p due h
    rw [h1] at h3
    cases h3
    exact h4
section
variable {w : World} {dp un : Nat} {gd : Option (List Code)} {cn : Str} {cs : Scope} {a : Addr} {ccd : Value} {cl : List (Str × Addr)} {outer : List Env} {A₀ : Around} {base h₀ : Heap} {L : Addr} {m mg mb : Str → Option Value} {p : Program} {loose : List Str} {mean : ExcName → Option Value} {s : Shared} {Q E : Value → Shared → Prop} {news : List (Addr × Obj)}
theorem ridden_law {G : LexG} {ln : Int} {t5 : Tok} {svs : List Value} {k : Nat} {own rest : List (Addr × Obj)} {sc : List Int} {z : Int} {tsz : Tok}
  (B : Below A₀ base outer h₀) (F : Fr h₀ L s.heap m) (X : (Mine.hdm.heap_1 w.params).In h₀) (N : News h₀ L s.heap (lexLed w.params G ln t5 svs k ((G.pb, W.listOf #[] 0) :: own ++ rest))) (T₀ : Top p loose mean mg mb h₀) (hk : cs.kind = .function) (hd : dp + 60 < recursionLimit) (hu : un + 200 < cLine)
  (hC : CodeHd h₀ 312 308) (O : LexOk PySem.Challenge.pw_pg0318_02 w (Mine.hdm.heap_1 w.params) p loose mean mg mb G own) (hws : G.ws = "\n\t\r ") (hpb : @LT.lt Nat _ G.sg G.pb ∧ @LT.lt Nat _ G.d G.pb) (hxp : @LT.lt Nat _ G.x G.pb) (hop : ∀ q ∈ own, q.1 ≠ G.pb) (hoff : ∀ q ∈ rest, q.1 ≠ G.d ∧ q.1 ≠ G.sg ∧ q.1 ≠ G.pb)
  (hsv : SgAre svs (stOf (textGo (lawRoads sc))).cps.toList) (hz : 1 ≤ z ∧ z ≤ 4)
  (ret : ∀ D tl tvs tk ta h' tk' T, Fr h₀ L h' m → News h₀ L h' ((D, tup2 (.ref tl) (.str (stOf []) ta)) :: (tl, W.listOf (tvs : List Value).toArray tk) :: (T ++ rest)) → All2 (RowE T) tvs (rowsAt z.toNat (lawRoads sc) 4) → Q (.ref D) {s with heap := h', toks := tk'}) :
  wpAny (model PySem.Challenge.pw_pg0318_02 w) (ktrTop dp un gd cn cs L a ccd cl outer) (call (.ref 318) [.ref G.x, .int z tsz]) Q E s := by
  obtain ⟨n, rfl⟩ : ∃ n : Nat, z = (n : Int) := ⟨z.toNat, by omega⟩
  have hrs : ∀ r ∈ lawRoads sc, RoadOk r := roads_ok
  have hT := toks_text (lawRoads sc) hrs
  have hwn : wsN = G.ws.cps.toList := by rw [hws]; decide +kernel
  rw [hwn] at hT
  have htl := text_len (lawRoads sc) hrs
  have hrl := roads_len sc
  refine ridden_call (ln := ln) (t5 := t5) (k := k) (pk := 0) (rs := lawRoads sc) B F X N T₀ hk hd hu hC O hpb hxp hop (fun q hq => ?_) hsv (Nat.le_trans htl (by omega)) hT hrs hrl (by omega) (ride_ok (by omega) hrs hrl) fun D tl tvs tk ta h' tk' T F' K' N' R' => ?_
  · simp only [List.mem_cons, List.cons_append, List.mem_append] at hq ⊢
    rcases hq with h | h | h | h | h | h | h
    · exact .inl h
    · exact .inr (.inl h)
    · exact .inr (.inr (.inl h))
    · exact .inr (.inr (.inr (.inl h)))
    · exact .inr (.inr (.inr (.inr (.inl h))))
    · exact .inr (.inr (.inr (.inr (.inr (.inl h)))))
    · exact .inr (.inr (.inr (.inr (.inr (.inr (.inl h))))))
  · refine ret D tl tvs tk ta h' tk' T F' (List.forall_mem_cons.mpr ⟨N' _ (.head _), List.forall_mem_cons.mpr ⟨N' _ (.tail _ (.head _)), fun q hq => ?_⟩⟩) R'
    rcases List.mem_append.mp hq with hq | hq
    · exact N' q (.tail _ (.tail _ hq))
    have Nr := News.sub N (news' := rest) fun q hq => .tail _ (.tail _ (.tail _ (.tail _ (.tail _ (.tail _ (List.mem_append_right _ hq))))))
    exact News.off Nr K' (fun q hq z => by
      obtain ⟨o1, o2, o3⟩ := hoff q hq
      simp only [List.mem_cons, List.not_mem_nil, or_false] at z
      rcases z with z | z | z
      · exact o1 z
      · exact o2 z
      · exact o3 z) q hq
theorem agree_law {ld td : Addr} {lvs tvs : List Value} {kl kt : Nat} {TR TT : List (Addr × Obj)} {sc : List Int} {z : Int} {tsz : Tok} (B : Below A₀ base outer h₀) (F : Fr h₀ L s.heap m) (X : (Mine.hdm.heap_1 w.params).In h₀) (N : News h₀ L s.heap news) (T₀ : Top p loose mean mg mb h₀) (hk : cs.kind = .function) (hd : dp + 60 < recursionLimit) (hu : un + 100 < cLine)
  (hCd : CodeHd h₀ 312 308) (hsub : ∀ q ∈ (ld, W.listOf lvs.toArray kl) :: (td, W.listOf tvs.toArray kt) :: TT, q ∈ news) (hTR : ∀ q ∈ TR, q ∈ TT) (hof : OwnOff TR [ld]) (hin : All2 (RoE TR) lvs (lawRoads sc)) (ht : All2 (RowE TT) tvs (rowsAt z.toNat (lawRoads sc) 4)) (hz : 1 ≤ z ∧ z ≤ 4)
  (ret : ∀ h' tk', Fr h₀ L h' m → News h₀ L h' news → Q (.bool true) {s with heap := h', toks := tk'}) :
  wpAny (model PySem.Challenge.pw_pg0318_02 w) (ktrTop dp un gd cn cs L a ccd cl outer) (call (.ref 342) [.ref ld, .ref td, .int z tsz]) Q E s := by
  obtain ⟨n, rfl⟩ : ∃ n : Nat, z = (n : Int) := ⟨z.toNat, by omega⟩
  have hs : 1 ≤ n := by omega
  refine agree_call B F X N T₀ hk hd hu hCd hsub hTR hof hin ht (roads_len sc) roads_ok (by omega) (fun k p due hk _ h => law_ok hs sc k p due hk h) (fun p hp => ?_) ret
  obtain ⟨ρ, h1, h2, h3⟩ := all_told hs sc p hp
  exact ⟨ρ, by rw [bget97]; exact h1, h2, h3⟩
end
section
variable {w : World} {dp un : Nat} {gd : Option (List Code)} {cn : Str} {cs : Scope} {a : Addr} {ccd : Value} {cl : List (Str × Addr)} {outer : List Env} {A₀ : Around} {base h₀ : Heap} {L : Addr} {m mg mb : Str → Option Value} {p : Program} {loose : List Str} {mean : ExcName → Option Value} {s : Shared} {Q E : Value → Shared → Prop} {news : List (Addr × Obj)}
theorem text_ok (sc : List Int) : (stOf (textGo (lawRoads sc))).length ≤ 1000 := by
  have := text_len (lawRoads sc) roads_ok
  have := roads_len sc
  rw [st_len]; omega
end
local macro_rules | `(tactic| walk_at "call ref") => `(tactic| (k_here; (with_reducible show wpAny _ _ (call (Value.ref 301) [_]) _ _ _); k_dflt (refine' Mine.roads_call ?k1 ?k2 ?k3 ?k4 ?k5 ?kK ?kd ?ku ?kS ?kI ?kz ?_; (case k1 => k_asm); (case k2 => k_asm); (case k3 => k_asm); (case k4 => k_asm); (case k5 => k_asm); (case kK => first | exact rfl | assumption); (case kS => assumption); (case kI => assumption); (case kz => omega); (case kd => ktr_room); (case ku => ktr_units)); intro ld9 lvs9 kl9 tl9 h9 tk9' F9 N9 L9 o9 p9; (try simp only [List.cons_append, List.nil_append] at N9); (try dsimp only); (try k_fold)))
local macro_rules | `(tactic| walk_at "α") => `(tactic| (refine List.forall_mem_cons.mpr ⟨by k_mem, fun q hq => ?_⟩; (repeat (first | exact hq | refine List.Mem.tail _ ?_))))
local macro_rules | `(tactic| walk_at "β") => `(tactic| exact Mine.roads_len _)
local macro_rules | `(tactic| walk_at "γ") => `(tactic| exact fun q hq => (Mine.roads_ok q hq).2.2.2)
local macro_rules | `(tactic| walk_at "call ref") => Mine.ln `Mine.text_call 12 0 false "AaBaCaDaEaFkJsIsHαKβLγGr" none 306 1 "Iabcde D F"
theorem law_stop {P : Prop} (h : LcAt P) : P := h
local macro_rules | `(tactic| walk_at "call ref") => Mine.ln `Mine.law_stop 0 0 false "" none 313 1 ""
local macro_rules | `(tactic| walk_at "call ref") => Mine.ln `Mine.law_stop 0 0 false "" none 318 2 ""
local macro_rules | `(tactic| walk_at "call ref") => Mine.ln `Mine.law_stop 0 0 false "" none 342 3 ""
theorem top_all : PySem.Challenge.rw_pg0318_02.Holds := hdm ⟨Mine.left_km "special-get-raises" Mine.chk_f Mine.chk_t, by
  k_go0
  dsimp only
  rename CodeHd _ _ _ => hC9
  replace hC9 := Mine.hd_id hC9
  show wpAny (model PySem.Challenge.pw_pg0318_02 _) (ktrTop _ _ _ _ _ _ _ _ _ _) _ _ _ _
  k_steps
  unfold Mine.LcAt
  rename Fr _ _ _ _ => F9
  rename News _ _ _ _ => N9
  rename_i ld9 lvs9 kl9 tl9 h9 tk9 L9 o9 p9 qk1 ek1 h1 F1 N1 va vb vc
  refine' Mine.reader_call (news := (ld9, W.listOf lvs9.toArray kl9) :: tl9) ?k1 ?k2 ?k3 ?k4 ?k5 ?kK ?kd ?ku ?kC ?ko ?kz ?ret
  case k1 => k_asm
  case k2 => exact F9
  case k3 => k_asm
  case k4 => exact News.sub N9 (sub_cons (.tail _ (.tail _ (.head _))) (sub_cons (.head _) fun q hq => .tail _ (.tail _ (.tail _ hq))))
  case k5 => k_asm
  case kK => first | exact rfl | assumption
  case kd => ktr_room
  case ku => ktr_units
  case kC => exact hC9
  case ko => exact fun q hq => (o9 (308, tabObj #[]) (.tail _ (.head _)) q hq).symm
  case kz => exact text_ok _
  case ret =>
    intro G ln t5 svs k own ps h8 tk8 F8 N8 S8 O8 W8 pb8 xp8 op8 of8
    dsimp only
    clear F9 N9 F1 N1
    k_steps
    unfold Mine.LcAt
    refine' Mine.ridden_law (rest := (308, tabObj ps) :: (ld9, W.listOf lvs9.toArray kl9) :: tl9) ?k1 ?k2 ?k3 ?k4 ?k5 ?kK ?kd ?ku ?kC ?kO ?kw ?kp ?kx ?ko ?kf ?ks ?kz ?ret2
    case k1 => k_asm
    case k2 => k_asm
    case k3 => k_asm
    case k4 => exact N8
    case k5 => k_asm
    case kK => first | exact rfl | assumption
    case kd => ktr_room
    case ku => ktr_units
    case kC => exact hC9
    case kO => exact O8
    case kw => exact W8
    case kp => exact pb8
    case kx => exact xp8
    case ko => exact op8
    case kf => exact of8
    case ks => exact S8
    case kz => exact size_ok _
    case ret2 =>
      intro D7 td7 tvs7 kt7 ta7 h7 tk7 T7 F7 N7 R7
      dsimp only
      clear F8 N8
      have N6 := News.sub N7 (news' := (D7, tup2 (.ref td7) (.str (stOf []) ta7)) :: (308, tabObj ps) :: (ld9, W.listOf lvs9.toArray kl9) :: (td7, W.listOf tvs7.toArray kt7) :: (tl9 ++ T7)) (sub_cons (.head _) (sub_cons (.tail _ (.tail _ (List.mem_append_right _ (.head _)))) (sub_cons (.tail _ (.tail _ (List.mem_append_right _ (.tail _ (.head _))))) (sub_cons (.tail _ (.head _)) fun q hq => (List.mem_append.mp hq).elim (fun hq => .tail _ (.tail _ (List.mem_append_right _ (.tail _ (.tail _ hq))))) fun hq => .tail _ (.tail _ (List.mem_append_left _ hq))))))
      clear N7
      have hem : (stOf [] == Str.ofString "") = true := by decide +kernel
      k_steps
      unfold Mine.LcAt
      rename Fr _ _ _ _ => F5
      rename News _ _ _ _ => N5
      refine' Mine.agree_law (TR := tl9) (TT := tl9 ++ T7) ?k1 ?k2 ?k3 ?k4 ?k5 ?kK ?kd ?ku ?kC ?ks ?kR ?kf ?kI ?kt ?kz ?ret3
      case k1 => k_asm
      case k2 => exact F5
      case k3 => k_asm
      case k4 => exact N5
      case k5 => k_asm
      case kK => first | exact rfl | assumption
      case kd => ktr_room
      case ku => ktr_units
      case kC => exact hC9
      case ks => exact sub_cons (.tail _ (.tail _ (.head _))) (sub_cons (.tail _ (.tail _ (.tail _ (.head _)))) fun q hq => .tail _ (.tail _ (.tail _ (.tail _ hq))))
      case kR => exact fun q hq => List.mem_append_left _ hq
      case kf => exact p9
      case kI => exact L9
      case kt => exact R7.mono (RowE.mono fun q hq => List.mem_append_right _ hq)
      case kz => exact size_ok _
      case ret3 =>
        intro h4 tk4 F4 N4
        dsimp only
        clear F5 N5
        k_steps⟩
end Mine

theorem PySem.Challenge.cw_pg0318_02_holds : PySem.Challenge.rw_pg0318_02.Holds := by
  exact Mine.top_all

