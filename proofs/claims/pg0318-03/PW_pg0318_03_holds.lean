import PyProof.Rows.All
import Wide.All
import OpenK.AllK
import Wide.FinOn
import Lean
import PySem.Challenge.RW_pg0318_03
open PySem PySem.W PyProof.Rows
set_option Elab.async false
set_option maxRecDepth 100000
set_option maxHeartbeats 8000000
set_option compiler.extract_closed false
-- THE HEAD, small: law's def alone is viewed; the top's run is one kernel check a value of the world's row
namespace Mine
def view : Program := { PySem.Challenge.pw_pg0318_03 with main := { PySem.Challenge.pw_pg0318_03.main with body := PySem.Challenge.pw_pg0318_03.main.body.drop 17 } }
def loose : List Str := ["_sre", "_wall", "Whitespace", "_netrclex", "_name_disallowed_re", "_value_disallowed_re", "Headers", "_law_leads", "_law_text", "_law_reader", "_law_told", "_law_column", "_law_least"].map Str.ofString
def seenX : Shared → Bool := fun s => xlAt view [] s && recOk (RowW.records PySem.Challenge.rw_pg0318_03.row.toRowW) s
noncomputable def topFromQ (p : Program) (w : World) (N : Nat) (s₀ : Shared) : Option Shared :=
  match s₀.heap.isNs mainGlobals && s₀.gens.size == 0 with
  | true => (PySem.W.Fast.tw14082659384304107361 PySem.W.Fast.tw14364793385576792824 p w s₀.heap.objs.size (PySem.W.Fast.tw8920871248978507458 s₀.heap mainGlobals "__annotations__") N s₀ (topStub p)).bind fun s₁ => match staticsOk (PySem.W.Fast.tw5923862056798008813 p.main.body) s₀.heap s₁.heap && namesBound p s₁.heap && gensDone s₁ && laidKept s₀.heap s₁.heap with
      | true => some s₁
      | false => none
  | false => none
noncomputable def runQ (p : Program) (w : World) (N : Nat) : Option Shared :=
  ((PySem.W.Fast.tw10274390034422433532 PySem.W.Fast.tw14364793385576792824 (opening p) w N (PySem.W.Fast.tw1435165496053646825 (opening p)).1 (PySem.W.Fast.tw1435165496053646825 (opening p)).2).bind (PySem.W.Fast.tw14289696077712309145 p)).bind (topFromQ p w N)
theorem runQ_eq (p : Program) (w : World) (N : Nat) : openEnds treeTable p w N = runQ p w N := by
  unfold openEnds fencedOpening runQ topFromQ; delta topFrom; simp only [PySem.W.Fast.te14082659384304107361, PySem.W.Fast.te10274390034422433532, PySem.W.Fast.te14289696077712309145, PySem.W.Fast.te1435165496053646825, PySem.W.Fast.te14364793385576792824, PySem.W.Fast.te5923862056798008813, PySem.W.Fast.te8920871248978507458]; rfl
-- what a heap holds at the written part's places (not by List.map: both sides of a check would stand under one name)
def getKeys (h : Heap) : List (Addr × Obj) → List (Option Obj)
  | [] => []
  | p :: r => h.get? p.1 :: getKeys h r
theorem getKeys_eq (h : Heap) : ∀ l, getKeys h l = (l.map (·.1)).map h.get?
  | [] => rfl
  | a :: r => by rw [getKeys, getKeys_eq h r]; rfl
def getAll (h : Heap) : List Addr → List (Option Obj)
  | [] => []
  | a :: r => h.get? a :: getAll h r
theorem getAll_eq (h : Heap) : ∀ l, getAll h l = l.map h.get?
  | [] => rfl
  | a :: r => by rw [getAll, getAll_eq h r]; rfl
def somes : List (Addr × Obj) → List (Option Obj)
  | [] => []
  | p :: r => some p.2 :: somes r
theorem somes_eq : ∀ l, somes l = l.map fun p => some p.2
  | [] => rfl
  | a :: r => by rw [somes, somes_eq r]; rfl
def tabs : List Addr → List (Option Obj)
  | [] => []
  | _ :: r => some (tabObj #[]) :: tabs r
theorem tabs_eq : ∀ l, tabs l = l.map fun _ => some (tabObj #[])
  | [] => rfl
  | a :: r => by rw [tabs, tabs_eq r]; rfl
abbrev Chk (p q : Program) (loose : List Str) (Xt : Shared → Bool) (N : Nat) (K : Params → Frag) (ts : List Addr) (w : World) : Prop :=
  (runQ p w N).map (fun s => (openSeen q loose (importedModules p.main.body) Xt true s, getKeys s.heap (K w.params), getAll s.heap ts)) = some (openGood q loose, somes (K w.params), tabs ts)
theorem left_km {p q : Program} {loose : List Str} {Xt : Shared → Bool} {N : Nat} {K : Params → Frag} {as : List Addr} {e : ∀ P, as = (K P).map (·.1)} {ts : List Addr} (row : String)
    (hf : ∀ w : World, Chk p q loose Xt N K ts (w.withFollow row false)) (ht : ∀ w : World, Chk p q loose Xt N K ts (w.withFollow row true)) :
    LeftO p q loose Xt (Hook.obs (kmHook K as e ts)) (Hook.val (kmHook K as e ts)) N := by
  have key : ∀ w : World, Chk p q loose Xt N K ts w := byRow2 row hf ht
  intro w
  have k := key w
  unfold Chk at k
  rw [runQ_eq]
  simp only [getKeys_eq, getAll_eq, somes_eq, tabs_eq, ← e] at k
  exact k
theorem holds_both {r : OpenRow} {q : Program} {loose : List Str} {Xt : Shared → Bool} {XP : (Str → Option Value) → Heap → Prop} {α : Type} {Yf : Shared → α} {Ya : World → α} {YP : World → Heap → Prop} {d : DefRec} {kwd : List (Str × PySem.Expr)} {N : Nat}
    (hY : ∀ w s, Yf s = Ya w → YP w s.heap) (hYk : ∀ w h h', YP w h → (∀ b o, h.get? b = some o → h'.get? b = some o) → YP w h')
    (hX : ∀ s, Xt s = true → XP (s.heap.nsMap mainGlobals) s.heap) (hXk : ∀ mg h h', XP mg h → (∀ b o, h.get? b = some o → h'.get? b = some o) → XP mg h')
    (hdef : defOf q r.name = some (d, kwd)) (hp : r.prog.theDef r.name = some (d.params, d.body, d.scope)) (hk : kwWritten? d.params.kwonlyargs d.params.kw_defaults = some kwd) (hRf : ∀ s, Xt s = true → RecFacts r.records s.heap) (hwr : (!r.writes || r.records.isEmpty) = true)
    (k1 : r.wellSaid = true) (ok : (chainsOk q && opensWell r.prog && (frees r.toRowW && r.within.isEmpty)) = true) (hb : r.prog.bare) (hw : r.toRowW.promised)
    (hc : LeftO r.prog q loose Xt Yf Ya N ∧ WalkO q loose XP YP r.toRowW d kwd fun f vs => PySem.call f vs) : r.Holds :=
  holds_open hc.1 hY hYk hX hXk hdef hp hk hRf hwr k1 ok hb hw hc.2
theorem law_said : PySem.Challenge.rw_pg0318_03.wellSaid = true := by
  unfold OpenLaw.wellSaid OpenRow.wellSaid OpenRow.partSaid looksOpen
  repeat' (with_reducible refine look_both ?_ ?_)
  all_goals decide +kernel
end Mine
local macro_rules | `(tactic| o_law) => `(tactic| refine holds_law Mine.law_said fun said => ?_)
local macro_rules | `(tactic| o_head $H) => `(tactic| (
  refine Mine.holds_both (q := Mine.view) (loose := Mine.loose) (Xt := Mine.seenX) (XP := XL Mine.view []) (Yf := Hook.obs $H) (Ya := Hook.val $H) (YP := Hook.says $H) (N := 4080) (Hook.of $H) (Hook.keeps $H) (fun s e => xl_of s (Bool.and_eq_true_iff.mp e).1) XL.keeps (by rfl) (by rfl) (by rfl) (fun s e => recFacts_of (Bool.and_eq_true_iff.mp e).2) (by rfl) (by first | assumption | decide +kernel) (by decide +kernel) ⟨rfl, rfl, rfl, rfl, rfl, by decide +kernel⟩ ?hw ?hc))
open_top Mine.hdm for PySem.Challenge.rw_pg0318_03
theorem Mine.chk_f (w : World) : Mine.Chk PySem.Challenge.pw_pg0318_03 Mine.view Mine.loose Mine.seenX 4080 Mine.hdm.heap_1 [297] (w.withFollow "special-get-raises" false) := by kernel_rfl
theorem Mine.chk_t (w : World) : Mine.Chk PySem.Challenge.pw_pg0318_03 Mine.view Mine.loose Mine.seenX 4080 Mine.hdm.heap_1 [297] (w.withFollow "special-get-raises" true) := by kernel_rfl

local macro_rules | `(tactic| omega) => `(tactic| lia)

-- a walk's line, built from a code: the holes, how each is met, what is named behind it
open Lean in
def Mine.cd (c : Char) : MacroM (TSyntax `tactic) := do
  match c with
  | 'a' => `(tactic| k_asm)
  | 'm' => `(tactic| k_mem)
  | 'd' => `(tactic| decide)
  | 's' => `(tactic| assumption)
  | 'o' => `(tactic| omega)
  | 'O' => `(tactic| first | assumption | omega)
  | 'r' => `(tactic| ktr_room)
  | 'u' => `(tactic| ktr_units)
  | 'k' => `(tactic| first | exact rfl | assumption)
  | 'U' => `(tactic| k_upd)
  | 'i' => `(tactic| k_is)
  | 'f' => `(tactic| exact rfl)
  | 'S' => `(tactic| k_sub)
  | 'A' => `(tactic| with_reducible assumption)
  | 'I' => `(tactic| k_inst)
  | 'w' => `(tactic| with_unfolding_all rfl)
  | 'W' => `(tactic| (intro _; with_unfolding_all rfl))
  | 'c' => `(tactic| (constructor <;> omega))
  | 'C' => `(tactic| first | exact ⟨by with_reducible assumption, by with_reducible assumption⟩ | (constructor <;> omega))
  | 'l' => `(tactic| (simp only [List.length_map]; omega))
  | 'z' => `(tactic| (rw [List.size_toArray, sizeLine_eq]; omega))
  | _ => `(tactic| walk_at $(Syntax.mkStrLit (toString c)))
def Mine.prs : List Char → List (Char × Char)
  | a :: b :: r => (a, b) :: Mine.prs r
  | _ => []
open Lean in
def Mine.ln (lem : Name) (p q : Nat) (wh : Bool) (cs : String) (g : Option Term) (ad ar : Nat) (post : String) : MacroM (TSyntax `tactic) := do
  let nm : Nat → Ident := fun i => mkIdent (Name.mkSimple ("qz" ++ toString i))
  let h1 ← (List.range p).toArray.mapM fun i => do let x := nm i; `(?$x:ident)
  let h2 ← (List.range q).toArray.mapM fun i => do let x := nm (p + i); `(?$x:ident)
  let hs : Array Term := (h1.push (← `(?_))) ++ h2
  let t0 ← (Mine.prs cs.toList).toArray.mapM fun (a, b) => do
    let x := nm (a.toNat - 65)
    let t ← Mine.cd b
    `(tactic| case $x:ident => $t:tactic)
  let sk ← `(tactic| skip)
  let ts := #[sk] ++ t0
  let vr : Char → MacroM Ident := fun c => do return mkIdent (← Macro.addMacroScope (Name.mkSimple ("v" ++ toString c)))
  let p0 ← ((post.splitOn " ").filter (· != "")).toArray.mapM fun w => do
    let xs ← (w.toList.drop 1).toArray.mapM vr
    let x := xs.getD 0 (mkIdent `v)
    match w.toList.headD 'D' with
    | 'I' => `(tactic| intro $xs:ident*)
    | 'F' => `(tactic| try k_fold)
    | 'W' => `(tactic| try k_sweep)
    | 'L' => `(tactic| try k_lt $x:ident)
    | 'M' => `(tactic| try k_lt2 $x:ident)
    | 'O' => do
      let o := mkIdent `Mine.offL
      `(tactic| (replace $x := $o:ident $x))
    | 'P' => do
      let o := mkIdent `Mine.OffL
      `(tactic| simp only [$o:ident, and_true] at $x:ident)
    | 'H' => do
      let y := xs.getD 1 x
      let z := xs.getD 2 x
      let o := mkIdent `Mine.hdNe
      `(tactic| try obtain ⟨n1, n2, n3, n4, n5, n6, n7, n8, n9⟩ := $o $x $y $z)
    | 'T' => `(tactic| walk_at $(Syntax.mkStrLit (String.ofList (w.toList.drop 1))))
    | 'U' => `(tactic| (refine' ⟨_, ?qu9, ?_⟩; (case qu9 => k_upd)))
    | _ => `(tactic| try dsimp only)
  let ps := #[sk] ++ p0
  let id := mkIdent lem
  let w ← if wh then `(tactic| k_whole) else `(tactic| skip)
  let s ← match g with
    | some g => `(tactic| with_reducible show $g)
    | none => if ad == 0 then `(tactic| skip) else do
      let n := Syntax.mkNumLit (toString ad)
      `(tactic| with_reducible show wpAny _ _ (call (Value.ref $n) _) _ _ _)
  let d ← if ar < 10 then `(tactic| skip) else `(tactic| try dsimp only [List.append_nil, List.nil_append])
  if ar % 10 == 9 then `(tactic| k_dflt (k_here; $d:tactic; $s:tactic; (refine' $id:ident $hs*; ($[$ts];*); $w:tactic); ($[$ps];*)))
  else `(tactic| (k_here; $d:tactic; $s:tactic; k_dflt (refine' $id:ident $hs*; ($[$ts];*); $w:tactic); ($[$ps];*)))

-- the same without a look at the goal, and with some first arguments left open
open Lean in
def Mine.ln2 (lem : Name) (pre p q : Nat) (wh : Bool) (cs : String) : MacroM (TSyntax `tactic) := do
  let nm : Nat → Ident := fun i => mkIdent (Name.mkSimple ("qz" ++ toString i))
  let us ← (List.range pre).toArray.mapM fun _ => `(term| _)
  let h1 ← (List.range p).toArray.mapM fun i => do let x := nm i; `(?$x:ident)
  let h2 ← (List.range q).toArray.mapM fun i => do let x := nm (p + i); `(?$x:ident)
  let hs : Array Term := us ++ (h1.push (← `(?_))) ++ h2
  let t0 ← (Mine.prs cs.toList).toArray.mapM fun (a, b) => do
    let x := nm (a.toNat - 65)
    let t ← Mine.cd b
    `(tactic| case $x:ident => $t:tactic)
  let sk ← `(tactic| skip)
  let ts := #[sk] ++ t0
  let id := mkIdent lem
  let w ← if wh then `(tactic| k_whole) else `(tactic| skip)
  `(tactic| (refine' $id:ident $hs*; ($[$ts];*); $w:tactic))

-- RULES OF OUR OWN: a def entered with what it may turn in the ledger alone; a loop by an invariant over map and ledger
namespace Mine
-- the function's Around and Env by name (the later terms are shorter)
theorem set_walk {M : Model} {A : Around} {l : List Stmt} {env : Env} {Q : Flow → Shared → Prop} {E : Value → Shared → Prop} {s : Shared} (h : let A₉ := A; let e₉ := env; wpAny M A₉ (execs l e₉) Q E s) : wpAny M A (execs l env) Q E s := h
-- room, by a check of written numbers
theorem room1 {d a b n : Nat} (h : d + a < n) (k : Nat.ble b a = true) : d + b < n := Nat.lt_of_le_of_lt (Nat.add_le_add_left (Nat.le_of_ble_eq_true k) d) h
theorem room2 {d a b c n : Nat} (h : d + a < n) (k : Nat.ble (b + c) a = true) : d + b + c < n := Nat.add_assoc d b c ▸ room1 h k
end Mine
namespace Mine
open PySem.Calls
section
variable {prog : Program} {w : World} {A A₀ : Around} {E : Value → Shared → Prop} {s : Shared} {K : Frag} {L : Addr} {h₀ base : Heap} {m mg mb : Str → Option Value} {p : Program} {loose : List Str} {mean : ExcName → Option Value}

theorem ltR {a b c : Nat} (h : b < c) (k : a < b) : a < c := Nat.lt_trans k h
def Keeps (fp : List Addr) (h h' : Heap) : Prop := ∀ b o, h.get? b = some o → b ∉ fp → h'.get? b = some o
theorem Keeps.refl {fp : List Addr} {h : Heap} : Keeps fp h h := fun _ _ e _ => e
theorem Keeps.trans {fp : List Addr} {h h' h'' : Heap} (a : Keeps fp h h') (b : Keeps fp h' h'') : Keeps fp h h'' := fun x o e n => b x o (a x o e n) n
theorem Keeps.mono {fp fp' : List Addr} {h h' : Heap} (a : Keeps fp h h') (k : ∀ x ∈ fp, x ∈ fp') : Keeps fp' h h' := fun x o e n => a x o e fun q => n (k x q)
theorem Fr.off {fp : List Addr} {h h' : Heap} (F : Fr h₀ L h m) (k : Keeps fp h h') (hf : ∀ x ∈ fp, x ≠ L ∧ h₀.get? x = none) : Fr h₀ L h' m := by
  obtain ⟨oL, a1, a2, hL, a3⟩ := F.ns
  refine ⟨⟨oL, a1, a2, k L oL hL fun q => (hf L q).1 rfl, a3⟩, fun b o e => k b o (F.keep b o e) fun q => ?_, F.above⟩
  rw [(hf b q).2] at e; cases e
theorem News.off {fp : List Addr} {h h' : Heap} {news : List (Addr × Obj)} (N : News h₀ L h news) (k : Keeps fp h h') (hf : ∀ p ∈ news, p.1 ∉ fp) : News h₀ L h' news :=
  fun p hp => ⟨k _ _ (N p hp).1 (hf p hp), (N p hp).2⟩
theorem News.sub {h : Heap} {news news' : List (Addr × Obj)} (N : News h₀ L h news) (k : ∀ p ∈ news', p ∈ news) : News h₀ L h news' := fun p hp => N p (k p hp)
theorem News.fp {h : Heap} {news : List (Addr × Obj)} (N : News h₀ L h news) : ∀ x ∈ news.map (·.1), x ≠ L ∧ h₀.get? x = none := fun x hx => by
  obtain ⟨p, hp, rfl⟩ := List.mem_map.mp hx
  exact (N p hp).2

end
-- maps of a frame, name by name
abbrev mput (k : Str) (v : Option Value) (m : Str → Option Value) : Str → Option Value := fun y => if y = k then v else m y
abbrev mnil : Str → Option Value := fun _ => none
def mlist : List (Str × Value) → Str → Option Value
  | [] => mnil
  | p :: r => mput p.1 (some p.2) (mlist r)
theorem mlist_at : ∀ (l : List (Str × Value)) (y : Str), List.lookup y l = mlist l y
  | [], _ => rfl
  | p :: r, y => by
    rw [mlist, List.lookup_cons]
    by_cases h : y = p.1
    · have : (y == p.1) = true := by simpa using h
      rw [this]; exact (if_pos h).symm
    · have : (y == p.1) = false := by simpa using h
      rw [this]; exact (mlist_at r y).trans (if_neg h).symm
theorem Fr.named {g h : Heap} {L : Addr} {b : List (Str × Value)} (l : List (Str × Value)) {m : Str → Option Value} (F : Fr g L h (fun y => List.lookup y b)) (e : b = l) (em : mlist l = m) : Fr g L h m := by
  have : (fun y => List.lookup y b) = m := funext fun y => (mlist_at b y).trans (by rw [e, em])
  exact this ▸ F
section
variable {prog : Program} {w : World} {A A₀ : Around} {E : Value → Shared → Prop} {s : Shared} {K : Frag} {L : Addr} {h₀ base : Heap} {m mg mb : Str → Option Value} {p : Program} {loose : List Str} {mean : ExcName → Option Value}
theorem enter_def (l : List (Str × Value)) {env : Env} {outer : List Env} {R : Result → Shared → Prop} {name qual : Str} {params : Arguments} {body : List Stmt} {scope : Scope} {dV kV doc pm cdv ct oc : Value} {an od : Option Addr} {osl : Array (Option Value)} {f : Addr} {args : Args} {binds : List (Str × Value)} {news : List (Addr × Obj)}
    (B : Below A₀ base outer h₀) (F : Fr h₀ L s.heap m) (X₀ : K.In h₀) (N : News h₀ L s.heap news) (T : Top p loose mean mg mb h₀) (hA : A.frames = some (env :: outer)) (hf : env.frame = some L) (hke : env.scope.kind = .function)
    (ho : K.lookup f = some ⟨oc, od, .func (fnOf name qual params body scope dV kV doc pm an cdv ct), osl⟩) (hcd : codeIn K cdv qual = true) (hroom : A.depth < recursionLimit)
    (hbind : BindsTo s (fnOf name qual params body scope dV kV doc pm an cdv ct) args binds) (hl : binds.reverse = l) (hloc : ∀ y ∈ binds, scope.names.lookup y.1 = some .local)
    (h : ∀ g L' h₁, (∀ b o, g.get? b = some o → s.heap.get? b = some o) → Keeps (news.map (·.1)) s.heap g → (∀ b, s.heap.objs.size ≤ b → g.get? b = none) → Fr g L' h₁ (mlist l) → News g L' h₁ news → Below A base (env :: outer) g → K.In g → Top p loose mean mg mb g →
      wpAny (model prog w) (A.deeper (envOf qual scope L' f cdv)) (execs body (envOf qual scope L' f cdv))
        (fun fl s' => R (.ok (.ret (match fl with | .ret v => v | _ => .none))) s') (fun _ _ => False)
        { s with heap := h₁, toks := s.toks + binds.length })
    (hco : scope.isCoroutine = false) (hgen : scope.isGenerator = false) (hk : scope.kind = .function)
    (hcell : ∀ x ∈ scope.names, x.2 ≠ .cell) : codeAny (model prog w) A (.call (.ref f) args) R s := by
  obtain ⟨FG, BG, st, _⟩ := groundX (R := R) B F N hA hf hke
  refine codeAny_call_def (fd := fnOf name qual params body scope dV kV doc pm an cdv ct) (body := body) (binds := binds) hroom ((X₀.keeps F.keep) _ _ ho) rfl (T.nolimit.keeps F.keep) (codeRec_of (X₀.keeps F.keep) hcd) rfl hbind hcell hloc (fun h₁ hns hk₁ => ?_) hco hgen hk
  refine wpAny_mono (h (hideAll s.heap (news.map (·.1))) s.heap.objs.size h₁ (fun b o e => of_hideAll _ e) (fun b o e n => hideAll_get _ e n) (fun b hb => Heap.get?_none_of_le (by rw [hideAll_size]; exact hb)) (Fr.named l ⟨hns, fun b o e => hk₁ b o (of_hideAll _ e), Nat.le_of_eq (hideAll_size _ _)⟩ hl rfl)
    (fun p hp => ⟨hk₁ _ _ (N p hp).1, Nat.ne_of_lt (Heap.lt_size (N p hp).1), hideAll_none _ (List.mem_map_of_mem hp)⟩) BG (X₀.keeps fun b o e => st b o e) (T.keeps fun b o e => st b o e)) (fun fl s' hl => hl) fun _ _ y => y.elim
end

section
variable {prog : Program} {w : World} {A : Around} {E : Value → Shared → Prop} {s : Shared} {env : Env} {h₀ : Heap} {Q : Flow → Shared → Prop} {target iter : PySem.Expr} {body : List Stmt} {pos : Pos}

inductive JEnd (h₀ : Heap) (L : Addr) (J : (Str → Option Value) → List (Addr × Obj) → Prop) (own : List (Addr × Obj)) (s s₂ : Shared) : Prop where
  | mk h' tk m' news' nx (h0 : s₂ = { s with heap := h', toks := tk }) (h1 : Fr h₀ L h' m') (h2 : News h₀ L h' news') (h3 : (∀ p ∈ nx, p ∈ news')) (h4 : (∀ p ∈ own, p ∈ news')) (h5 : (∀ p ∈ nx, ∀ q ∈ own, p.1 ≠ q.1)) (h6 : J m' nx) : JEnd h₀ L J own s s₂
def JPost (h₀ : Heap) (L : Addr) (J : (Str → Option Value) → List (Addr × Obj) → Prop) (own : List (Addr × Obj)) (s : Shared) (Q : Flow → Shared → Prop) (f : Flow) (s₂ : Shared) : Prop :=
  match f with
  | .ret v => Q (.ret v) s₂
  | .brk => Q .next s₂
  | _ => JEnd h₀ L J own s s₂

def JAt (prog : Program) (w : World) (A : Around) (env : Env) (target : PySem.Expr) (body : List Stmt) (Q : Flow → Shared → Prop) (E : Value → Shared → Prop) (it : Value) (s₂ : Shared) : Prop :=
  codeAny (model prog w) A (.forLoop target it body [] env) (fun r s' => match r with | .ok f => Q f s' | .error e => cameBackBy (model prog w) A env E e s') s₂

theorem for_J (h : wpAny (model prog w) A (eval iter env) (fun xv s₁ => wpAny (model prog w) A (pyIter xv) (fun it s₂ => JAt prog w A env target body Q E it s₂) E s₁) E s)
    (hs : ∀ x, foldedSetIterable iter env x = pure x := by intro _; rfl) : wpAny (model prog w) A (exec (.For target iter body [] pos) env) Q E s := wpAny_For h hs

theorem loop_J {I : Addr} {fp wr : List Addr} {n : Nat} {P : Nat → Value → Prop} {St : Nat → Heap → Prop} {m₀ : Str → Option Value} {news : List (Addr × Obj)} (J : Nat → (Str → Option Value) → List (Addr × Obj) → Prop) {L : Addr}
    (W : Walks prog w A I fp wr n P St) (hLf : L ∉ fp) (hwr : ∀ b ∈ wr, h₀.get? b = none) (hlive : ∀ i h, St i h → ∀ b ∈ fp, ∃ o, h.get? b = some o) (hfp : ∀ q ∈ news, q.1 ∉ fp) (hst : St 0 s.heap) {fixed : List (Addr × Obj)} (hfix : ∀ q ∈ fixed, q.1 ∈ fp ∧ q.1 ∉ wr ∧ h₀.get? q.1 = none ∧ s.heap.get? q.1 = some q.2) (F : Fr h₀ L s.heap m₀) (N : News h₀ L s.heap news) (hj : J 0 m₀ news)
    (hgo : ∀ i (s' : Shared) v (Q' : Unit → Shared → Prop), St i s'.heap → Q' () s' → wpAny (model prog w) A (letOwnedTupleGo target (.ref I) v) Q' (fun _ _ => False) s')
    (turn : ∀ i v m₁ nx h tk own, i < n → P i v → (∀ q ∈ fixed, q ∈ own) → (∀ p ∈ nx, ∀ q ∈ own, p.1 ≠ q.1) → J i m₁ nx → Fr h₀ L h m₁ → News h₀ L h (nx ++ own) →
      wpAny (model prog w) A (assign target env v) (fun _ s₃ => wpAny (model prog w) A (execs body env) (JPost h₀ L (J (i + 1)) own { s with heap := h, toks := tk } Q) (fun _ _ => False) s₃) (fun _ _ => False) { s with heap := h, toks := tk })
    (done : ∀ m₁ nx h tk, J n m₁ nx → Fr h₀ L h m₁ → News h₀ L h (fixed ++ nx) → Q .next { s with heap := h, toks := tk }) :
    JAt prog w A env target body Q E (.ref I) s := by
  have hLw : L ∉ wr := fun h => hLf (W.sub _ h)
  have old : ∀ b o, h₀.get? b = some o → b ∉ wr := fun b o e hb => by rw [hwr b hb] at e; cases e
  unfold JAt
  refine codeAny_forLoop_any
    (fun k s' => ∃ h' tk m' news' i, s' = { s with heap := h', toks := tk } ∧ St i h' ∧ Fr h₀ L h' m' ∧ News h₀ L h' news' ∧ (∀ p ∈ news', p.1 ∉ fp) ∧ (∀ q ∈ fixed, h'.get? q.1 = some q.2) ∧ J i m' news' ∧ i ≤ n ∧ k = n + 1 - i) ?_ (n + 1)
    ⟨s.heap, s.toks, m₀, news, 0, rfl, hst, F, N, hfp, fun q hq => (hfix q hq).2.2.2, hj, Nat.zero_le _, rfl⟩
  rintro k s' ⟨h', tk, m', news', i, rfl, hst', F', N', hnf, hfx, hJ, hi, rfl⟩
  have hnw' : ∀ p ∈ news', p.1 ∉ wr := fun p hp q => hnf p hp (W.sub _ q)
  have next : ∀ h₁ : Heap, (∀ b o, b ∉ wr → h'.get? b = some o → h₁.get? b = some o) → Fr h₀ L h₁ m' ∧ News h₀ L h₁ news' := fun h₁ hk₁ =>
    ⟨⟨F'.ns.at' fun o e => hk₁ _ o hLw e, fun b o e => hk₁ b o (old b o e) (F'.keep b o e), F'.above⟩, fun p hp => ⟨hk₁ _ _ (hnw' p hp) (N' p hp).1, (N' p hp).2⟩⟩
  by_cases hlt : i < n
  · refine W.item i _ _ _ hlt hst' fun v h₁ tk₁ hP hst₁ hk₁ => ?_
    obtain ⟨F₁, N₁⟩ := next h₁ hk₁
    have Nown : News h₀ L h₁ (ownOf h₀ fp h₁) := news_ownOf hLf
    have hoff : ∀ p ∈ news', ∀ q ∈ ownOf h₀ fp h₁, p.1 ≠ q.1 := fun p hp q hq e => hnf p hp (e ▸ ownOf_sub q hq)
    refine wpAny_noRaise (hgo (i + 1) _ v _ hst₁ ?_)
    refine wpAny_noRaise (wpAny_mono (turn i v m' news' h₁ tk₁ (ownOf h₀ fp h₁) hlt hP (fun q hq => mem_ownOf (hfix q hq).1 (hfix q hq).2.2.1 (hk₁ _ _ (hfix q hq).2.1 (hfx q hq))) hoff hJ F₁ (fun p hp => (List.mem_append.mp hp).elim (N₁ p) (Nown p))) (fun _ s₂ h₂ => ?_) fun _ _ e => e)
    refine wpAny_noRaise (wpAny_mono h₂ (fun f s₃ h₃ => ?_) fun _ _ e => e)
    have fin : JEnd h₀ L (J (i + 1)) (ownOf h₀ fp h₁) { s with heap := h₁, toks := tk₁ } s₃ → ∃ m, m < n + 1 - i ∧ ∃ h' tk m' news' j, s₃ = { s with heap := h', toks := tk } ∧ St j h' ∧ Fr h₀ L h' m' ∧ News h₀ L h' news' ∧ (∀ p ∈ news', p.1 ∉ fp) ∧ (∀ q ∈ fixed, h'.get? q.1 = some q.2) ∧ J j m' news' ∧ j ≤ n ∧ m = n + 1 - j := by
      rintro ⟨h₃', tk₃, m₂, all, nx, rfl, F₃, N₃, hn, ho, ha, hJ₃⟩
      refine ⟨n + 1 - (i + 1), by omega, h₃', tk₃, m₂, nx, i + 1, rfl, ?_, F₃, fun p hp => N₃ p (hn p hp), fun p hp hq => ?_, fun q hq => (N₃ q (ho q (mem_ownOf (hfix q hq).1 (hfix q hq).2.2.1 (hk₁ _ _ (hfix q hq).2.1 (hfx q hq))))).1, hJ₃, hlt, rfl⟩
      · refine W.frame _ _ _ hst₁ fun b hb o e => ?_
        cases hn' : h₀.get? b with
        | some o₀ =>
          have : o₀ = o := by have := F₁.keep b o₀ hn'; rw [e] at this; exact (Option.some.inj this).symm
          exact this ▸ F₃.keep b o₀ hn'
        | none => exact (N₃ _ (ho _ (mem_ownOf hb hn' e))).1
      · obtain ⟨o, e⟩ := hlive _ _ hst₁ _ hq
        cases hn' : h₀.get? p.1 with
        | some o₀ => rw [(N₃ p (hn p hp)).2.2] at hn'; cases hn'
        | none => exact ha p hp _ (mem_ownOf hq hn' e) rfl
    cases f with
    | ret v => exact h₃
    | brk => exact h₃
    | next => exact fin h₃
    | cont => exact fin h₃
  · have hin : i = n := by omega
    subst hin
    refine W.done _ _ _ hst' fun h₁ tk₁ hk₁ => wpAny_execs_nil ?_
    obtain ⟨F₁, N₁⟩ := next h₁ hk₁
    exact done m' news' h₁ tk₁ hJ F₁ fun p hp => (List.mem_append.mp hp).elim (fun hq => ⟨hk₁ _ _ (hfix p hq).2.1 (hfx p hq), fun e => hLf (e ▸ (hfix p hq).1), (hfix p hq).2.2.1⟩) (N₁ p)

theorem JEnd.intro {h₀ : Heap} {L : Addr} {J : (Str → Option Value) → List (Addr × Obj) → Prop} {own news' : List (Addr × Obj)} {s : Shared} {h' : Heap} {tk : Nat} {m' : Str → Option Value} (nx : List (Addr × Obj)) (F : Fr h₀ L h' m') (N : News h₀ L h' news')
    (hn : ∀ p ∈ nx, p ∈ news') (ho : ∀ p ∈ own, p ∈ news') (ha : ∀ p ∈ nx, ∀ q ∈ own, p.1 ≠ q.1) (hJ : J m' nx) : JEnd h₀ L J own s { s with heap := h', toks := tk } := ⟨h', tk, m', news', nx, rfl, F, N, hn, ho, ha, hJ⟩

theorem str_J {xt : Str} {tx : Tok} {m₀ : Str → Option Value} {news : List (Addr × Obj)} (J : Nat → (Str → Option Value) → List (Addr × Obj) → Prop) {L : Addr} (hh : A.handled = none) (F : Fr h₀ L s.heap m₀) (N : News h₀ L s.heap news) (hj : J 0 m₀ news)
    (turn : ∀ i c u m₁ nx h tk own, xt.cps[i]? = some c → (∀ p ∈ nx, ∀ q ∈ own, p.1 ≠ q.1) → J i m₁ nx → Fr h₀ L h m₁ → News h₀ L h (nx ++ own) →
      wpAny (model prog w) A (assign target env (.str ⟨#[c]⟩ u)) (fun _ s₃ => wpAny (model prog w) A (execs body env) (JPost h₀ L (J (i + 1)) own { s with heap := h, toks := tk } Q) (fun _ _ => False) s₃) (fun _ _ => False) { s with heap := h, toks := tk })
    (done : ∀ m₁ nx h tk, J xt.cps.size m₁ nx → Fr h₀ L h m₁ → News h₀ L h nx → Q .next { s with heap := h, toks := tk })
    (ht : ∀ v I, letOwnedTupleGo target (.ref I) v = pure () := by intro _ _; rfl) :
    wpAny (model prog w) A (pyIter (.str xt tx)) (fun it s₂ => JAt prog w A env target body Q E it s₂) E s := by
  have key : ∀ (o : Obj) (St : Nat → Heap → Prop), (∀ A' : Around, A'.handled = none → Walks prog w A' s.heap.objs.size [s.heap.objs.size] [s.heap.objs.size] xt.cps.size (SignAt xt) St) → St 0 (s.heap.push o) → (∀ i h, St i h → ∃ o, h.get? s.heap.objs.size = some o) →
      JAt prog w A env target body Q E (.ref s.heap.objs.size) { s with heap := s.heap.push o } := by
    intro o St hW hst hl
    have W := hW A hh
    refine loop_J J W ?_ ?_ ?_ ?_ hst (fixed := []) (fun _ h => nomatch h) (F.push _) (fun p hp => ⟨Heap.get?_push_of_some _ (N p hp).1, (N p hp).2⟩) hj (fun i s' v Q' _ hq => by rw [ht]; exact wpAny_pure hq) ?_ ?_
    · intro hm
      exact absurd F.ns.lt ((List.mem_singleton.mp hm) ▸ Nat.lt_irrefl _)
    · intro b' hb
      rw [List.mem_singleton.mp hb]
      exact next_is_new F
    · intro i h st b hb
      rw [List.mem_singleton.mp hb]
      exact hl i h st
    · intro p hp hI
      exact absurd (Heap.lt_size (N p hp).1) ((List.mem_singleton.mp hI) ▸ Nat.lt_irrefl _)
    · rintro i v m₁ nx h tk own hi ⟨c, u, hn, rfl⟩ _ hoff hJ F₁ N₁
      exact turn i c u m₁ nx h tk own hn hoff hJ F₁ N₁
    · intro m₁ nx h tk hJ F₁ N₁
      exact done m₁ nx h tk hJ F₁ N₁
  cases ha : xt.cps.all (· < 128)
  · exact wpAny_pyIter_wide ha (key _ _ (fun A' hA => Walks.strWide hA _ xt tx) ⟨_, Heap.get?_push_size _ rfl, rfl, rfl⟩ fun i h st => ⟨_, st.choose_spec.1⟩)
  · exact wpAny_pyIter_ascii ha (key _ _ (fun A' hA => Walks.strAscii hA _ xt tx) ⟨_, Heap.get?_push_size _ rfl, rfl, rfl⟩ fun i h st => ⟨_, st.choose_spec.1⟩)

theorem range_J {r : Addr} {a₀ b₀ : Int} {t₀ u₀ v₀ : Tok} {m₀ : Str → Option Value} {news : List (Addr × Obj)} (J : Nat → (Str → Option Value) → List (Addr × Obj) → Prop) {L : Addr} (hh : A.handled = none) (hr : IsRange s.heap r a₀ b₀ 1 t₀ u₀ v₀)
    (ha : -(2 ^ 20) ≤ a₀ ∧ a₀ ≤ 2 ^ 20) (hb : -(2 ^ 20) ≤ b₀ ∧ b₀ ≤ 2 ^ 20) (F : Fr h₀ L s.heap m₀) (N : News h₀ L s.heap news) (hj : J 0 m₀ news)
    (turn : ∀ (i : Nat) u m₁ nx h tk own, i < (b₀ - a₀).toNat → (∀ p ∈ nx, ∀ q ∈ own, p.1 ≠ q.1) → J i m₁ nx → Fr h₀ L h m₁ → News h₀ L h (nx ++ own) →
      wpAny (model prog w) A (assign target env (.int (a₀ + (i : Int)) u)) (fun _ s₃ => wpAny (model prog w) A (execs body env) (JPost h₀ L (J (i + 1)) own { s with heap := h, toks := tk } Q) (fun _ _ => False) s₃) (fun _ _ => False) { s with heap := h, toks := tk })
    (done : ∀ m₁ nx h tk, J (b₀ - a₀).toNat m₁ nx → Fr h₀ L h m₁ → News h₀ L h nx → Q .next { s with heap := h, toks := tk })
    (ht : ∀ v I, letOwnedTupleGo target (.ref I) v = pure () := by intro _ _; rfl) :
    wpAny (model prog w) A (pyIter (.ref r)) (fun it s₂ => JAt prog w A env target body Q E it s₂) E s := by
  refine wpAny_pyIter_range hr (small_one (by omega) (by omega) (by omega) (by omega)) ?_
  have W : Walks prog w A s.heap.objs.size [s.heap.objs.size] [s.heap.objs.size] (b₀ - a₀).toNat (fun i v => ∃ t, v = .int (a₀ + i * 1) t)
      (fun i h => IsRangeIter h s.heap.objs.size (a₀ + (i : Nat) * 1) (((b₀ - a₀).toNat : Int) - (i : Nat)) 1) := Walks.range hh _ a₀ 1 _
  refine loop_J J W ?_ ?_ (fun i h st b hb => by rw [List.mem_singleton.mp hb]; exact ⟨_, st⟩) ?_ (by show IsRangeIter _ _ _ _ _; rw [rangeSize_nat]; simpa using Heap.get?_push_size _ rfl) (fixed := []) (fun _ h => nomatch h) (F.push _) (fun p hp => ⟨Heap.get?_push_of_some _ (N p hp).1, (N p hp).2⟩) hj (fun i s' v Q' _ hq => by rw [ht]; exact wpAny_pure hq) ?_ ?_
  · intro hm
    exact absurd F.ns.lt ((List.mem_singleton.mp hm) ▸ Nat.lt_irrefl _)
  · intro b hb
    rw [List.mem_singleton.mp hb]
    exact next_is_new F
  · intro p hp hI
    exact absurd (Heap.lt_size (N p hp).1) ((List.mem_singleton.mp hI) ▸ Nat.lt_irrefl _)
  · rintro i v m₁ nx h tk own hi ⟨u, rfl⟩ _ hoff hJ F₁ N₁
    rw [Int.mul_one]
    exact turn i u m₁ nx h tk own hi hoff hJ F₁ N₁
  · intro m₁ nx h tk hJ F₁ N₁
    exact done m₁ nx h tk hJ F₁ N₁

theorem list_J {l : Addr} {items : Array Value} {k : Nat} {m₀ : Str → Option Value} {news : List (Addr × Obj)} (J : Nat → (Str → Option Value) → List (Addr × Obj) → Prop) {L : Addr} (hh : A.handled = none)
    (F : Fr h₀ L s.heap m₀) (N : News h₀ L s.heap ((l, W.listOf items k) :: news)) (hlo : ∀ q ∈ news, q.1 ≠ l) (hj : J 0 m₀ news)
    (turn : ∀ i v m₁ nx h tk own, items[i]? = some v → (l, W.listOf items k) ∈ own → (∀ p ∈ nx, ∀ q ∈ own, p.1 ≠ q.1) → J i m₁ nx → Fr h₀ L h m₁ → News h₀ L h (nx ++ own) →
      wpAny (model prog w) A (assign target env v) (fun _ s₃ => wpAny (model prog w) A (execs body env) (JPost h₀ L (J (i + 1)) own { s with heap := h, toks := tk } Q) (fun _ _ => False) s₃) (fun _ _ => False) { s with heap := h, toks := tk })
    (done : ∀ m₁ nx h tk, J items.size m₁ nx → Fr h₀ L h m₁ → News h₀ L h ((l, W.listOf items k) :: nx) → Q .next { s with heap := h, toks := tk }) :
    wpAny (model prog w) A (pyIter (.ref l)) (fun it s₂ => JAt prog w A env target body Q E it s₂) E s := by
  have hl := N _ (.head _)
  have hls : s.heap.IsList l items := ⟨_, hl.1, rfl, k, rfl⟩
  have hlt : l < s.heap.objs.size := Heap.lt_size hl.1
  refine wpAny_pyIter_list hls ?_
  have WW := Walks.list (prog := prog) (w := w) hh s.heap.objs.size l (Nat.ne_of_lt hlt) items
  refine loop_J J WW ?_ ?_ (fun i h st b hb => ?_) ?_ ⟨⟨_, Heap.get?_push_size _ rfl, rfl, rfl⟩, hls.at fun o e => Heap.get?_push_of_some _ e⟩ (fixed := [(l, W.listOf items k)]) (fun q hq => ?_) (F.push _) (fun p hp => ⟨Heap.get?_push_of_some _ (N p (.tail _ hp)).1, (N p (.tail _ hp)).2⟩) hj (fun i s' v Q' st hq => letGo_listiter st.1 hq) ?_ ?_
  · intro hm
    rcases List.mem_cons.mp hm with e | hm
    · exact absurd F.ns.lt (e ▸ Nat.lt_irrefl _)
    · exact hl.2.1 (List.mem_singleton.mp hm).symm
  · intro b hb
    rw [List.mem_singleton.mp hb]
    exact next_is_new F
  · rcases List.mem_cons.mp hb with e | hb
    · rw [e]; exact ⟨_, st.1.choose_spec.1⟩
    · rw [List.mem_singleton.mp hb]; exact ⟨_, st.2.choose_spec.1⟩
  · intro p hp hI
    rcases List.mem_cons.mp hI with e | hI
    · exact absurd (Heap.lt_size (N p (.tail _ hp)).1) (e ▸ Nat.lt_irrefl _)
    · exact hlo p hp (List.mem_singleton.mp hI)
  · rw [List.mem_singleton.mp hq]
    exact ⟨.tail _ (.head _), fun e => Nat.ne_of_lt hlt (List.mem_singleton.mp e), hl.2.2, Heap.get?_push_of_some _ hl.1⟩
  · rintro i v m₁ nx h tk own hi hP hfx hoff hJ F₁ N₁
    exact turn i v m₁ nx h tk own hP (hfx _ (.head _)) hoff hJ F₁ N₁
  · intro m₁ nx h tk hJ F₁ N₁
    exact done m₁ nx h tk hJ F₁ N₁

end
def AllEq (m m' : Str → Option Value) : List Str → Prop
  | [] => True
  | n :: r => m n = m' n ∧ AllEq m m' r
def Off (y : Str) : List Str → Prop
  | [] => True
  | n :: r => y ≠ n ∧ Off y r
theorem mext (ns : List Str) {m m' : Str → Option Value} (h1 : AllEq m m' ns) (h2 : ∀ y, Off y ns → m y = m' y) : m = m' := by
  funext y
  have key : ∀ l : List Str, AllEq m m' l → m y = m' y ∨ Off y l := by
    intro l
    induction l with
    | nil => exact fun _ => .inr trivial
    | cons n r ih =>
      rintro ⟨a, b⟩
      by_cases q : y = n
      · subst q; exact .inl a
      · exact (ih b).imp id fun z => ⟨q, z⟩
  exact (key ns h1).elim id (h2 y)
theorem Fr.eq {g h : Heap} {L : Addr} {m m' : Str → Option Value} (F : Fr g L h m) (e : m = m') : Fr g L h m' := e ▸ F
theorem sub_nil {l : List (Addr × Obj)} : ∀ p ∈ ([] : List (Addr × Obj)), p ∈ l := fun _ h => nomatch h
theorem sub_cons {l r : List (Addr × Obj)} {q : Addr × Obj} (a : q ∈ l) (b : ∀ p ∈ r, p ∈ l) : ∀ p ∈ q :: r, p ∈ l := List.forall_mem_cons.mpr ⟨a, b⟩
theorem sub_self {l : List (Addr × Obj)} : ∀ p ∈ l, p ∈ l := fun _ h => h
theorem sub_tail {l r : List (Addr × Obj)} {q : Addr × Obj} (b : ∀ p ∈ r, p ∈ l) : ∀ p ∈ r, p ∈ q :: l := fun p h => .tail _ (b p h)
theorem allLt_mem {d : Addr} (l : List (Addr × Obj)) (h : AllLt d l) (p : Addr × Obj) (hp : p ∈ l) : p.1 < d := by
  induction l with
  | nil => cases hp
  | cons q r ih =>
    rcases List.mem_cons.mp hp with e | e
    · rw [e]; exact h.1
    · exact ih h.2 e
theorem ne_of_allLt {d : Addr} {l : List (Addr × Obj)} (h : AllLt d l) : ∀ p ∈ l, p.1 ≠ d := fun p hp => Nat.ne_of_lt (allLt_mem l h p hp)
section
variable {prog : Program} {w : World} {A : Around} {E : Value → Shared → Prop} {s : Shared} {h₀ : Heap} {L : Addr} {m : Str → Option Value} {news : List (Addr × Obj)}
theorem tuple_L {l : Addr} {items : Array Value} {k : Nat} {Q : Value → Shared → Prop} (F : Fr h₀ L s.heap m) (N : News h₀ L s.heap news) (hm : (l, W.listOf items k) ∈ news) (hz : items.size ≤ 1000)
    (h : ∀ D h', Fr h₀ L h' m → News h₀ L h' ((D, { cls := .type "tuple", data := .seq items }) :: news) → (∀ p ∈ news, p.1 < D) → Q (.ref D) { s with heap := h' }) :
    wpAny (model prog w) A (call (.type "tuple") [.ref l]) Q E s := by
  refine call_tuple_list ⟨_, (N _ hm).1, rfl, k, rfl⟩ (fun h' hk => ?_) (by rw [sizeLine_eq]; omega)
  have F' : Fr h₀ L h' m := ⟨F.ns.keeps hk, fun b o e => hk b o (F.keep b o e), F.above⟩
  have N' : News h₀ L h' news := fun p hp => ⟨hk _ _ (N p hp).1, (N p hp).2⟩
  exact h _ _ (F'.push _) (N'.push F' _) fun p hp => Heap.lt_size (N' p hp).1
end
theorem sgn {c k : Nat} {x : Str} (hx : x = ⟨#[k]⟩) : ((⟨#[c]⟩ : Str) == x) = decide (c = k) := by
  subst hx
  by_cases h : c = k
  · subst h; simp
  · rw [decide_eq_false h, beq_eq_false_iff_ne]
    intro e
    apply h
    have := congrArg Str.cps e
    simpa using this
theorem leave {h₀ h₁ g h' : Heap} {L L' : Addr} {m m' : Str → Option Value} {known out : List (Addr × Obj)} (F₁ : Fr h₀ L h₁ m) (N₁ : News h₀ L h₁ known) (hgk : Keeps (known.map (·.1)) h₁ g) (F' : Fr g L' h' m') (N' : News g L' h' out) :
    Fr h₀ L h' m ∧ News h₀ L h' out ∧ Keeps (known.map (·.1)) h₁ h' := by
  have hk : Keeps (known.map (·.1)) h₁ h' := fun b o e n => F'.keep b o (hgk b o e n)
  have hf := News.fp N₁
  obtain ⟨oL, _, _, hL, _⟩ := F₁.ns
  have gL := hgk L oL hL fun q => (hf L q).1 rfl
  refine ⟨Fr.off F₁ hk hf, fun p hp => ⟨(N' p hp).1, fun q => ?_, ?_⟩, hk⟩
  · have := (N' p hp).2.2; rw [q, gL] at this; cases this
  · cases q : h₀.get? p.1 with
    | none => rfl
    | some o =>
      have e := hgk _ _ (F₁.keep _ _ q) fun z => by rw [(hf _ z).2] at q; cases q
      rw [(N' p hp).2.2] at e; cases e
theorem News.skip3 {h₀ h : Heap} {L : Addr} {a b c : Addr × Obj} {r : List (Addr × Obj)} (N : News h₀ L h (a :: b :: c :: r)) : News h₀ L h (a :: b :: r) :=
  News.sub N (sub_cons (.head _) (sub_cons (.tail _ (.head _)) (sub_tail (sub_tail (sub_tail sub_self)))))
theorem leave_ro {h₀ h₁ g h' : Heap} {L L' : Addr} {m m' : Str → Option Value} {known news out : List (Addr × Obj)} (F₁ : Fr h₀ L h₁ m) (N₁ : News h₀ L h₁ news) (hs : ∀ p ∈ known, p ∈ news) (hgk : Keeps (known.map (·.1)) h₁ g) (F' : Fr g L' h' m') (N' : News g L' h' out) (ho : ∀ p ∈ known, p ∈ out) :
    Fr h₀ L h' m ∧ News h₀ L h' news := by
  obtain ⟨F'', N'', hk⟩ := leave F₁ (News.sub N₁ hs) hgk F' N'
  refine ⟨F'', fun p hp => ?_⟩
  by_cases q : p.1 ∈ known.map (·.1)
  · obtain ⟨r, hr, e⟩ := List.mem_map.mp q
    have : r.2 = p.2 := by
      have a := (N₁ r (hs r hr)).1
      rw [e, (N₁ p hp).1] at a
      exact (Option.some.inj a).symm
    have e2 : r = p := Prod.ext e this
    exact e2 ▸ N'' r (ho r hr)
  · exact ⟨hk _ _ (N₁ p hp).1 q, (N₁ p hp).2⟩
section
variable {prog : Program} {w : World} {A : Around} {E : Value → Shared → Prop} {s : Shared} {h₀ : Heap} {L : Addr} {news : List (Addr × Obj)}
theorem len_TT {l : Addr} {items : Array Value} {k : Nat} {Q : Value → Shared → Prop} (N : News h₀ L s.heap news) (hm : (l, ({ cls := .type "tuple", data := .seq items k } : Obj)) ∈ news) (hz : items.size ≤ 1000)
    (h : ∀ t tk, Q (.int (items.size : Int) t) { s with toks := tk }) : wpAny (model prog w) A (call (.builtin "len") [.ref l]) Q E s :=
  len_tuple ⟨_, (N _ hm).1, rfl, k, rfl⟩ (by omega) (h _ _)
theorem item_TI {value slice : PySem.Expr} {l : Addr} {vs : List Value} {ns : List Int} {n : Nat} {k : Int} {u : Tok} {Q : Value → Shared → Prop} (N : News h₀ L s.heap news) (hm : (l, ({ cls := .type "tuple", data := .seq vs.toArray n } : Obj)) ∈ news) (hi : IntsAre vs ns)
    (h0 : 0 ≤ k) (h1 : k < ns.length) (hz : ns.length ≤ 1000) (h : ∀ t, Q (.int (ns.getD k.toNat 0) t) s)
    (hs : subscripted slice false (.ref l) (.int k u) = operate [.ref l, .int k u] (getItem (.ref l) (.int k u)) := by with_unfolding_all rfl) (hg : ∀ r, letTemporaryGo value (.ref l) r = pure () := by intro _; with_unfolding_all rfl) :
    wpAny (model prog w) A (subscriptTail value slice (.ref l) (.int k u)) Q E s := by
  have hl := hi.length
  have e : ns[k.toNat]? = some (ns.getD k.toNat 0) := by
    rw [List.getD_eq_getElem?_getD, List.getElem?_eq_getElem (by omega)]; rfl
  obtain ⟨t, hx⟩ := hi.get _ _ e
  exact item_tupleL (j := k.toNat) ⟨_, (N _ hm).1, rfl, n, rfl⟩ (by omega) (by omega) (by unfold seqIndex?; simp only [if_neg (Int.not_lt.mpr h0)]; rw [if_pos]; simp; omega) hx (h t) hs hg
end
-- addresses off a list, piece by piece
theorem ooC {q : Addr × Obj} {T : List (Addr × Obj)} {as : List Addr} (h : ∀ r ∈ as, q.1 ≠ r) (k : OwnOff T as) : OwnOff (q :: T) as := List.forall_mem_cons.mpr ⟨h, k⟩
theorem ooA {T T' : List (Addr × Obj)} {as : List Addr} (h : OwnOff T as) (k : OwnOff T' as) : OwnOff (T ++ T') as := fun q hq => (List.mem_append.mp hq).elim (h q) (k q)
theorem oo0 {T : List (Addr × Obj)} : OwnOff T [] := fun _ _ _ h => nomatch h
theorem ooX {r : Addr} {T : List (Addr × Obj)} {as : List Addr} (h : ∀ q ∈ T, q.1 ≠ r) (k : OwnOff T as) : OwnOff T (r :: as) := fun q hq => List.forall_mem_cons.mpr ⟨h q hq, k q hq⟩
theorem ooN {r : Addr} {T : List (Addr × Obj)} {as : List Addr} (h : ∀ q ∈ T, @Ne Nat r q.1) (k : OwnOff T as) : OwnOff T (r :: as) := fun q hq => List.forall_mem_cons.mpr ⟨(h q hq).symm, k q hq⟩
theorem fa3 {P : Addr → Prop} {a b c : Addr} (h1 : P a) (h2 : P b) (h3 : P c) : ∀ r ∈ [a, b, c], P r := List.forall_mem_cons.mpr ⟨h1, List.forall_mem_cons.mpr ⟨h2, List.forall_mem_cons.mpr ⟨h3, List.forall_mem_nil _⟩⟩⟩
theorem fa4 {P : Addr → Prop} {a b c d : Addr} (h1 : P a) (h2 : P b) (h3 : P c) (h4 : P d) : ∀ r ∈ [a, b, c, d], P r := List.forall_mem_cons.mpr ⟨h1, fa3 h2 h3 h4⟩
theorem fa5 {P : Addr → Prop} {a b c d e : Addr} (h1 : P a) (h2 : P b) (h3 : P c) (h4 : P d) (h5 : P e) : ∀ r ∈ [a, b, c, d, e], P r := List.forall_mem_cons.mpr ⟨h1, fa4 h2 h3 h4 h5⟩
theorem geN {as : List Addr} {d : Addr} (h : ∀ r ∈ as, @LT.lt Nat _ r d) {a : Addr} (hd : @LE.le Nat _ d a) : ∀ r ∈ as, a ≠ r := fun r hr => Nat.ne_of_gt (Nat.lt_of_lt_of_le (h r hr) hd)
theorem ooE {r : Addr} {T : List (Addr × Obj)} {as : List Addr} (h : OwnOff T as) (k : ∀ q ∈ T, q.1 ≠ r) : OwnOff T (as ++ [r]) := fun q hq a ha => (List.mem_append.mp ha).elim (h q hq a) fun e => by rw [List.mem_singleton.mp e]; exact k q hq
-- an if at hand (no line of the library's at it)
section
variable {prog : Program} {w : World} {A : Around} {E : Value → Shared → Prop} {s : Shared}
def IfAt (prog : Program) (w : World) (A : Around) (test : PySem.Expr) (body orelse : List Stmt) (pos : Pos) (env : Env) (Q : Flow → Shared → Prop) (E : Value → Shared → Prop) (s : Shared) : Prop := wpAny (model prog w) A (exec (.If test body orelse pos) env) Q E s
theorem if_stop {test : PySem.Expr} {body orelse : List Stmt} {pos : Pos} {env : Env} {Q : Flow → Shared → Prop} (h : IfAt prog w A test body orelse pos env Q E s) : wpAny (model prog w) A (exec (.If test body orelse pos) env) Q E s := h
theorem IfAt.go {test : PySem.Expr} {body orelse : List Stmt} {pos : Pos} {env : Env} {Q : Flow → Shared → Prop} (h : wpAny (model prog w) A (isTrue test env (eval test env)) (fun b s₁ => if b then wpAny (model prog w) A (execs body env) Q E s₁ else wpAny (model prog w) A (execs orelse env) Q E s₁) E s) : IfAt prog w A test body orelse pos env Q E s := wpAny_If h
theorem IfAt.cut {test : PySem.Expr} {body orelse : List Stmt} {pos : Pos} {env : Env} {Q P : Flow → Shared → Prop} (h : IfAt prog w A test body orelse pos env P E s) (k : ∀ f s', P f s' → Q f s') : IfAt prog w A test body orelse pos env Q E s := wpAny_mono h k fun _ _ e => e
theorem IfAt.test {test : PySem.Expr} {body orelse : List Stmt} {pos : Pos} {env : Env} {Q : Flow → Shared → Prop} (P : Shared → Bool → Shared → Prop) (h : wpAny (model prog w) A (isTrue test env (eval test env)) (P s) E s) (k : ∀ b s₁, P s b s₁ → if b then wpAny (model prog w) A (execs body env) Q E s₁ else wpAny (model prog w) A (execs orelse env) Q E s₁) : IfAt prog w A test body orelse pos env Q E s := wpAny_If (wpAny_mono h k fun _ _ e => e)
theorem IfAt.cutS {test : PySem.Expr} {body orelse : List Stmt} {pos : Pos} {env : Env} {Q : Flow → Shared → Prop} (P : Shared → Flow → Shared → Prop) (h : IfAt prog w A test body orelse pos env (P s) E s) (k : ∀ f s', P s f s' → Q f s') : IfAt prog w A test body orelse pos env Q E s := wpAny_mono h k fun _ _ e => e
-- a for at hand
def ForAt (prog : Program) (w : World) (A : Around) (target iter : PySem.Expr) (body : List Stmt) (pos : Pos) (env : Env) (Q : Flow → Shared → Prop) (E : Value → Shared → Prop) (s : Shared) : Prop := wpAny (model prog w) A (exec (.For target iter body [] pos) env) Q E s
theorem for_stop {target iter : PySem.Expr} {body : List Stmt} {pos : Pos} {env : Env} {Q : Flow → Shared → Prop} (h : ForAt prog w A target iter body pos env Q E s) : wpAny (model prog w) A (exec (.For target iter body [] pos) env) Q E s := h
theorem ForAt.cutS {target iter : PySem.Expr} {body : List Stmt} {pos : Pos} {env : Env} {Q : Flow → Shared → Prop} (P : Shared → Flow → Shared → Prop) (h : ForAt prog w A target iter body pos env (P s) E s) (k : ∀ f s', P s f s' → Q f s') : ForAt prog w A target iter body pos env Q E s := wpAny_mono h k fun _ _ e => e
end
end Mine

theorem Mine.fill3 : (Mine.hdm.heap_1, PySem.Challenge.rw_pg0318_03) = (Mine.hdm.heap_1, PySem.Challenge.rw_pg0318_03) := by k_fill; rfl

local macro_rules | `(tactic| walk_at "forJ") => `(tactic| (k_here; (with_unfolding_all refine' Mine.for_J ?_ ?hs); (case hs => with_unfolding_all exact fun _ => rfl)))
local macro_rules | `(tactic| walk_at "exec For Name Attribute cons nil") => `(tactic| walk_at "forJ")
local macro_rules | `(tactic| walk_at "exec For Name Name cons nil") => `(tactic| walk_at "forJ")
local macro_rules | `(tactic| walk_at "exec For Name Call cons nil") => `(tactic| walk_at "forJ")
local macro_rules | `(tactic| walk_at "а") => `(tactic| (simp only [List.size_toArray]; omega))
local macro_rules | `(tactic| walk_at "call type:tuple") => do
  let g := (some (← `(term| wpAny _ _ (call (Value.type _) [Value.ref _]) _ _ _)))
  Mine.ln `Mine.tuple_L 4 0 true "AaBaCmDа" g 0 0 "Iabcde Le W"
local macro_rules | `(tactic| walk_at "JPost") => `(tactic| dsimp only [Mine.JPost])
local macro_rules | `(tactic| walk_at "б") => `(tactic| first | exact BindsTo.of_eq rfl | exact binds_K (by k_in) rfl (by k_is) rfl rfl rfl)
local macro_rules | `(tactic| walk_at "в") => `(tactic| with_unfolding_all exact rfl)
local macro_rules | `(tactic| walk_at "г") => `(tactic| exact locs rfl)
local macro_rules | `(tactic| ktr_enter) => Mine.ln2 `Mine.enter_def 1 14 4 true "FfGfHsAaBaCaDaEaIiJiKrLбMвRdNгOfPfQf"
local macro_rules | `(tactic| walk_at "д") => `(tactic| (first | omega | (simp only [List.size_toArray]; omega)))
local macro_rules | `(tactic| walk_at "е") => `(tactic| (try simp only [List.size_toArray]))
local macro_rules | `(tactic| walk_at "call builtin:len") => do
  let g := (some (← `(term| wpAny _ _ (call (Value.builtin "len") [Value.ref _]) _ _ _)))
  Mine.ln `Mine.len_TT 3 0 true "AaBmCд" g 0 0 "Iab Tе"
local macro_rules | `(tactic| walk_at "subscriptTail Name Name ref int") => Mine.ln `Mine.item_TI 6 2 true "AaBmCADoEoFoGwHW" none 0 0 "Ia"
local macro_rules | `(tactic| k_sub) => `(tactic| first | ((repeat (first | exact Mine.sub_self | refine Mine.sub_tail ?_)); done) | ((repeat (first | exact Mine.sub_nil | (refine Mine.sub_cons (by k_mem) ?_) | ((repeat (first | exact Mine.sub_self | refine Mine.sub_tail ?_)); done))); done))
local macro_rules | `(tactic| k_mem) => `(tactic| ((fail_if_success (refine' List.Mem.tail _ ?_)); assumption))
local macro_rules | `(tactic| walk_at "call builtin:list.append") => do
  let g := (some (← `(term| wpAny _ _ (call (Value.builtin _) [Value.ref _, _]) _ _ _)))
  Mine.ln `append_K 3 1 true "AaBaCUDz" g 0 0 "Iabc W"
local macro_rules | `(tactic| walk_at "exec For Tuple Call cons nil") => `(tactic| walk_at "forJ")
local macro_rules | `(tactic| ktr_room) => `(tactic| first | exact Mine.room2 (by assumption) rfl | exact Mine.room1 (by assumption) rfl)
local macro_rules | `(tactic| k_in) => `(tactic| first | assumption | exact Frag.In.keeps (by k_asm) (Fr.keep (by k_asm)))

theorem Mine.tt_p_ws : True := by w_top off; exact trivial
namespace Mine
-- WHITESPACE: what __init__ reckons
def wsGrow (count : List Int) (b : Nat) : List Int := if count.length ≤ b then count ++ List.replicate (b - count.length + 1) 0 else count
def wsBump (count : List Int) (b : Nat) : List Int := (wsGrow count b).set b ((wsGrow count b).getD b 0 + 1)
def wsGo : List Nat → Nat → Nat → Nat → List Int → Nat × Nat × Nat × List Int
  | [], n, b, nt, count => (n, b, nt, count)
  | c :: r, n, b, nt, count => if c = 32 then wsGo r (n + 1) (b + 1) nt count else if c = 9 then wsGo r (n + 1) 0 (nt + 1) (wsBump count b) else (n, b, nt, count)
abbrev wsOf (ws : Str) := wsGo ws.cps.toList 0 0 0 []
section
variable {ws : Str} {i c n b nt : Nat} {cns : List Int} {T : Nat × Nat × Nat × List Int}
theorem ws_drop (hc : ws.cps[i]? = some c) : ws.cps.toList.drop i = c :: ws.cps.toList.drop (i + 1) := by
  have h : ws.cps.toList[i]? = some c := by simpa using hc
  obtain ⟨hl, he⟩ := List.getElem?_eq_some_iff.mp h
  rw [List.drop_eq_getElem_cons hl, he]
theorem ws_blank (hc : ws.cps[i]? = some c) (e : (⟨#[c]⟩ == Str.ofString " ") = true) (h : T = wsGo (ws.cps.toList.drop i) n b nt cns) : T = wsGo (ws.cps.toList.drop (i + 1)) (n + 1) (b + 1) nt cns := by
  rw [sgn (k := 32) (by decide +kernel)] at e
  rw [h, ws_drop hc, wsGo, if_pos (of_decide_eq_true e)]
theorem ws_tab (hc : ws.cps[i]? = some c) (e : (⟨#[c]⟩ == Str.ofString " ") = false) (e' : (⟨#[c]⟩ == Str.ofString "\t") = true) (h : T = wsGo (ws.cps.toList.drop i) n b nt cns) : T = wsGo (ws.cps.toList.drop (i + 1)) (n + 1) 0 (nt + 1) (wsBump cns b) := by
  rw [sgn (k := 32) (by decide +kernel)] at e
  rw [sgn (k := 9) (by decide +kernel)] at e'
  rw [h, ws_drop hc, wsGo, if_neg (of_decide_eq_false e), if_pos (of_decide_eq_true e')]
theorem ws_stop (hc : ws.cps[i]? = some c) (e : (⟨#[c]⟩ == Str.ofString " ") = false) (e' : (⟨#[c]⟩ == Str.ofString "\t") = false) (h : T = wsGo (ws.cps.toList.drop i) n b nt cns) : T = (n, b, nt, cns) := by
  rw [sgn (k := 32) (by decide +kernel)] at e
  rw [sgn (k := 9) (by decide +kernel)] at e'
  rw [h, ws_drop hc, wsGo, if_neg (of_decide_eq_false e), if_neg (of_decide_eq_false e')]
theorem ws_end (h : T = wsGo (ws.cps.toList.drop ws.cps.size) n b nt cns) : T = (n, b, nt, cns) := by
  rw [h, ← Array.length_toList, List.drop_length, wsGo]
theorem ws_grown (h : (cns.length : Int) ≤ b) : wsGrow cns b = cns ++ (List.replicate ((b : Int) - cns.length + 1).toNat [(0 : Int)]).flatten := by
  have : ((b : Int) - cns.length + 1).toNat = b - cns.length + 1 := by omega
  rw [wsGrow, if_pos (by omega), this, List.flatten_replicate_singleton]
theorem ws_same (h : ¬ (cns.length : Int) ≤ b) : wsGrow cns b = cns := by rw [wsGrow, if_neg (by omega)]
theorem wsGrow_length : (wsGrow cns b).length ≤ max cns.length (b + 1) ∧ b < (wsGrow cns b).length := by
  unfold wsGrow
  split
  · rw [List.length_append, List.length_replicate]; omega
  · omega
theorem wsBump_length : (wsBump cns b).length ≤ max cns.length (b + 1) := by
  rw [wsBump, List.length_set]; exact wsGrow_length.1
end
abbrev wsMap (vch : Option Value) (n b nt : Nat) (tn tb tnt tx : Tok) (la x : Addr) (ws : Str) : Str → Option Value :=
  mput "ch" vch (mput "nt" (some (.int (nt : Int) tnt)) (mput "n" (some (.int (n : Int) tn)) (mput "b" (some (.int (b : Int) tb)) (mput "count" (some (.ref la)) (mput "S" (some (.str " " 304)) (mput "T" (some (.str "\t" 305)) (mput "self" (some (.ref x)) (mput "ws" (some (.str ws tx)) mnil))))))))
inductive WsJ (P : Params) (ws : Str) (x d : Addr) (tx : Tok) (i : Nat) (m₁ : Str → Option Value) (nx : List (Addr × Obj)) : Prop where
  | mk0 (tkr : Tok) (vch : Option Value) (n b nt : Nat) (cvs : List Value) (cns : List Int) (tn tb tnt : Tok) (la : Addr) (k : Nat)
    (h0 : wsOf ws = wsGo (ws.cps.toList.drop i) n b nt cns) (h1 : IntsAre cvs cns) (h2 : n ≤ i) (h3 : b ≤ i) (h4 : nt ≤ i) (h5 : cns.length ≤ i)
    (h6 : m₁ = wsMap vch n b nt tn tb tnt tx la x ws) (h7 : @LT.lt Nat _ x la ∧ @LT.lt Nat _ d la) (h8 : nx = [(la, W.listOf cvs.toArray k), (x, instObj 100 d), (d, dictOf [⟨PyData.keyHash P "raw", .str "raw" tkr, .str ws tx⟩] 1)]) : WsJ P ws x d tx i m₁ nx
theorem WsJ.mk {P : Params} {ws : Str} {x d la : Addr} {tx tkr tn tb tnt : Tok} {vch : Option Value} {i n b nt k : Nat} {cvs : List Value} {cns : List Int} {m₀ : Str → Option Value}
    (hgo : wsOf ws = wsGo (ws.cps.toList.drop i) n b nt cns) (hi : IntsAre cvs cns) (hb : n ≤ i ∧ b ≤ i ∧ nt ≤ i ∧ cns.length ≤ i) (h1 : @LT.lt Nat _ x la ∧ @LT.lt Nat _ d la)
    (hm : m₀ = wsMap vch n b nt tn tb tnt tx la x ws) : WsJ P ws x d tx i m₀ [(la, W.listOf cvs.toArray k), (x, instObj 100 d), (d, dictOf [⟨PyData.keyHash P "raw", .str "raw" tkr, .str ws tx⟩] 1)] :=
  ⟨tkr, vch, n, b, nt, cvs, cns, tn, tb, tnt, la, k, hgo, hi, hb.1, hb.2.1, hb.2.2.1, hb.2.2.2, hm, h1, rfl⟩
theorem own3 {own : List (Addr × Obj)} {a b c : Addr} {o₁ o₂ o₃ : Obj} (h1 : ∀ q ∈ own, q.1 ≠ a) (h2 : ∀ q ∈ own, q.1 ≠ b) (h3 : ∀ q ∈ own, q.1 ≠ c) : ∀ p ∈ [(a, o₁), (b, o₂), (c, o₃)], ∀ q ∈ own, p.1 ≠ q.1 :=
  List.forall_mem_cons.mpr ⟨fun q hq => (h1 q hq).symm, List.forall_mem_cons.mpr ⟨fun q hq => (h2 q hq).symm, List.forall_mem_cons.mpr ⟨fun q hq => (h3 q hq).symm, List.forall_mem_nil _⟩⟩⟩
inductive WsCut (P : Params) (g : Heap) (L : Addr) (ws : Str) (x d : Addr) (tx : Tok) (s : Shared) (f : Flow) (s' : Shared) : Prop where
  | mk h' tk' (tkr : Tok) (vch : Option Value) (n b nt : Nat) (cvs : List Value) (cns : List Int) (tn tb tnt : Tok) (la : Addr) (k : Nat) (e0 : f = .next) (e1 : s' = {s with heap := h', toks := tk'}) (h0 : wsOf ws = (n, b, nt, cns)) (h1 : IntsAre cvs cns) (h2 : n ≤ 100) (h3 : b ≤ 100) (h4 : nt ≤ 100) (h5 : cns.length ≤ 100)
    (h7 : @LT.lt Nat _ x la ∧ @LT.lt Nat _ d la) (F : Fr g L h' (wsMap vch n b nt tn tb tnt tx la x ws)) (N : News g L h' [(la, W.listOf cvs.toArray k), (x, instObj 100 d), (d, dictOf [⟨PyData.keyHash P "raw", .str "raw" tkr, .str ws tx⟩] 1)]) : WsCut P g L ws x d tx s f s'
inductive WsCut2 (g : Heap) (L : Addr) (mm : Tok → Tok → Addr → Str → Option Value) (R own : List (Addr × Obj)) (x d : Addr) (cns : List Int) (s : Shared) (f : Flow) (s' : Shared) : Prop where
  | mk h' tk' tn tnt (cvs : List Value) (la : Addr) (k : Nat) (e0 : f = .next) (e1 : s' = {s with heap := h', toks := tk'}) (h1 : IntsAre cvs cns) (h7 : @LT.lt Nat _ x la ∧ @LT.lt Nat _ d la) (ho : OwnOff own [la, x, d]) (F : Fr g L h' (mm tn tnt la)) (N : News g L h' ((la, W.listOf cvs.toArray k) :: R)) : WsCut2 g L mm R own x d cns s f s'
local macro_rules | `(tactic| walk_at "exec If") => Mine.ln `Mine.if_stop 0 0 false "" none 0 0 ""
local macro_rules | `(tactic| walk_at "exec For Name Attribute cons nil") => Mine.ln `Mine.for_stop 0 0 false "" none 0 0 ""
section
variable {w : World} {dp un : Nat} {gd : Option (List Code)} {cn : Str} {cs : Scope} {a : Addr} {ccd : Value} {cl : List (Str × Addr)} {outer : List Env} {A₀ : Around} {base h₀ : Heap} {L : Addr} {m mg mb : Str → Option Value} {p : Program} {loose : List Str} {mean : ExcName → Option Value} {s : Shared} {Q E : Value → Shared → Prop} {news : List (Addr × Obj)}
theorem ws_call {ws : Str} {t : Tok} (B : Below A₀ base outer h₀) (F : Fr h₀ L s.heap m) (X : (Mine.hdm.heap_1 w.params).In h₀) (N : News h₀ L s.heap news) (T : Top p loose mean mg mb h₀) (hk : cs.kind = .function) (hd : dp + 5 < recursionLimit) (hu : un + 50 < cLine)
  (hws : ws.length ≤ 100)
  (ret : ∀ x d D D1 (cvs : List Value) t1 t2 t3 t4 t5 t6 t7 t8 h' tk', Fr h₀ L h' m →
    News h₀ L h' ((D, { cls := .type "tuple", data := .seq #[.ref D1, .int ((wsOf ws).2.1 : Int) t6] }) :: (D1, { cls := .type "tuple", data := .seq cvs.toArray }) :: (x, instObj 100 d) :: (d, dictOf [⟨PyData.keyHash w.params "raw", .str "raw" t1, .str ws t⟩, ⟨PyData.keyHash w.params "n", .str "n" t2, .int ((wsOf ws).1 : Int) t7⟩, ⟨PyData.keyHash w.params "nt", .str "nt" t3, .int ((wsOf ws).2.2.1 : Int) t8⟩, ⟨PyData.keyHash w.params "norm", .str "norm" t4, .ref D⟩, ⟨PyData.keyHash w.params "is_simple", .str "is_simple" t5, .bool (decide (((wsOf ws).2.2.2.length : Int) ≤ 1))⟩] 5) :: news) →
    IntsAre cvs (wsOf ws).2.2.2 → (∀ p ∈ news, p.1 < d) → d < x → x < D1 → D1 < D → Q (.ref x) {s with heap := h', toks := tk'}) :
  wpAny (model PySem.Challenge.pw_pg0318_03 w) (ktrTop dp un gd cn cs L a ccd cl outer) (call (.ref 100) [.str ws t]) Q E s := by
  refine' call_cls ?k1 ?k2 ?k3 ?k4 ?k5 ?k6 ?_; (case k1 => k_asm); (case k2 => k_asm); (case k3 => k_asm); (case k4 => k_is); (case k5 => k_is); (case k6 => k_is)
  intro x d h₁ F₁ Nall l1 l2
  have N₁ : News h₀ L h₁ [(x, instObj 100 d), (d, dictOf [] 0)] := News.sub Nall (sub_cons (.head _) (sub_cons (.tail _ (.head _)) sub_nil))
  have N₀ : News h₀ L h₁ news := News.sub Nall fun p hp => .tail _ (.tail _ hp)
  have hbk : ∀ (cvs : List Value) {g h' : Heap} {L' D D1 : Addr} {m' : Str → Option Value} {news' : List (Addr × Obj)} (tk' t1 t2 t3 t4 t5 t6 t7 t8 : Nat) {n b nt : Nat} {cns : List Int}, wsOf ws = (n, b, nt, cns) → IntsAre cvs cns → Keeps [x, d] h₁ g → Fr g L' h' m' →
      News g L' h' ((D, { cls := .type "tuple", data := .seq #[.ref D1, .int (b : Int) t6] }) :: (D1, { cls := .type "tuple", data := .seq cvs.toArray }) :: (x, instObj 100 d) :: (d, dictOf [⟨PyData.keyHash w.params "raw", .str "raw" t1, .str ws t⟩, ⟨PyData.keyHash w.params "n", .str "n" t2, .int (n : Int) t7⟩, ⟨PyData.keyHash w.params "nt", .str "nt" t3, .int (nt : Int) t8⟩, ⟨PyData.keyHash w.params "norm", .str "norm" t4, .ref D⟩, ⟨PyData.keyHash w.params "is_simple", .str "is_simple" t5, .bool (decide ((cns.length : Int) ≤ 1))⟩] 5) :: news') →
      @LT.lt Nat _ x D1 → @LT.lt Nat _ D1 D → Q (.ref x) {s with heap := h', toks := tk'} := by
    intro cvs g h' L' D D1 m' news' tk' t1 t2 t3 t4 t5 t6 t7 t8 n b nt cns e hi hgk F' N' hx hD
    obtain ⟨F'', N'', hk⟩ := leave F₁ N₁ hgk F' N'
    have N3 : News h₀ L h' news := News.off N₀ hk fun p hp q => by
      have := l1 p hp
      simp only [List.map_cons, List.map_nil, List.mem_cons, List.not_mem_nil, or_false] at q
      rcases q with q | q
      · rw [q] at this; exact Nat.lt_asymm this l2
      · rw [q] at this; exact Nat.lt_irrefl _ this
    refine ret x d D D1 cvs t1 t2 t3 t4 t5 t6 t7 t8 h' tk' F'' ?_ (by rw [e]; exact hi) l1 l2 hx hD
    rw [e]
    intro p hp
    rcases List.mem_cons.mp hp with h | hp
    · exact N'' p (h ▸ .head _)
    rcases List.mem_cons.mp hp with h | hp
    · exact N'' p (h ▸ .tail _ (.head _))
    rcases List.mem_cons.mp hp with h | hp
    · exact N'' p (h ▸ .tail _ (.tail _ (.head _)))
    rcases List.mem_cons.mp hp with h | hp
    · exact N'' p (h ▸ .tail _ (.tail _ (.tail _ (.head _))))
    · exact N3 p hp
  clear Nall N₀ l1
  (try k_lt2 l2)
  ktr_enter
  intro g L' h₂ hgs hgk hgn F₂ N₂ B₂ X₂ T₂
  clear hgs hgn B N
  try dsimp only
  change Fr g L' h₂ (mput "ws" (some (.str ws t)) (mput "self" (some (.ref x)) mnil)) at F₂
  k_fold
  try (refine Mine.set_walk ?_; intro A₉ e₉)
  k_steps
  rename News _ _ _ _ => Nn
  rename Fr _ _ _ _ => Fn
  refine ForAt.cutS (WsCut w.params g L' ws x d t) ?cut ?rest
  case rest =>
    rintro f s' ⟨h, tk, tkr, vch, n, b, nt, cvs, cns, tn, tb, tnt, la, k, rfl, rfl, hgo, hin, hn, hb, hnt, hl100, hla, F₃, N₃⟩
    have hcl : cvs.length = cns.length := hin.length
    clear Fn Nn
    dsimp only
    refine wpAny_execs_cons ?_
    k_steps
    rename Fr _ _ _ _ => Fz
    rename News _ _ _ _ => Nz
    refine ⟨rfl, ?_⟩
    exact hbk cvs _ _ _ _ _ _ _ _ _ hgo hin hgk Fz (News.skip3 Nz) (by omega) (by omega)
  refine for_J ?_ (fun _ => rfl)
  k_steps
  refine' Mine.str_J (WsJ w.params ws x d t) ?hh Fn (Mine.News.sub Nn (news' := [(_, W.listOf #[] 0), (x, instObj 100 d), (d, dictOf [⟨PyData.keyHash w.params "raw", .str "raw" _, .str ws t⟩] 1)]) ?hN) ?hj ?turn ?done ?ht
  case hh => rfl
  case ht => intro _ _; rfl
  case hN => exact sub_cons (by k_mem) (sub_cons (by k_mem) (sub_cons (by k_mem) sub_nil))
  case hj =>
    exact WsJ.mk (vch := none) (cvs := []) (cns := []) (n := 0) (b := 0) (nt := 0) rfl .nil (by refine ⟨?_, ?_, ?_, ?_⟩ <;> exact Nat.le_refl _) (by constructor <;> omega) (mext ["ch", "nt", "n", "b", "count", "S", "T", "self", "ws"] ⟨rfl, rfl, rfl, rfl, rfl, rfl, rfl, rfl, rfl, trivial⟩ (by intro y hy; simp only [Off] at hy; simp [wsMap, mput, mnil, hy]))
  case done =>
    rintro m₁ nx h tk ⟨tkr, vch, n, b, nt, cvs, cns, tn, tb, tnt, la, k, hgo, hin, hn, hb, hnt, hlen, rfl, hla, rfl⟩ F₃ N₃
    have hi2 : ws.cps.size ≤ 100 := hws
    exact ⟨_, _, tkr, vch, n, b, nt, cvs, cns, tn, tb, tnt, la, k, rfl, rfl, ws_end hgo, hin, by omega, by omega, by omega, by omega, hla, F₃, N₃⟩
  case turn =>
    rintro i c u m₁ nx h tk own hc hoff ⟨tkr, vch, n, b, nt, cvs, cns, tn, tb, tnt, la, k, hgo, hin, hn, hb, hnt, hlen, rfl, hla, rfl⟩ F₃ N₃
    simp only [List.cons_append, List.nil_append] at N₃
    have ho : OwnOff own [la, x, d] := fun p hp q hq e => by
      simp only [List.mem_cons, List.not_mem_nil, or_false] at hq
      rcases hq with rfl | rfl | rfl
      · exact hoff _ (.head _) p hp e.symm
      · exact hoff _ (.tail _ (.head _)) p hp e.symm
      · exact hoff _ (.tail _ (.tail _ (.head _))) p hp e.symm
    clear hoff Fn Nn
    have hi : i < ws.cps.size := (Array.getElem?_eq_some_iff.mp hc).1
    have hi2 : ws.cps.size ≤ 100 := hws
    have hl100 : cns.length ≤ 100 := by omega
    have hcl : cvs.length = cns.length := hin.length
    k_steps
    refine IfAt.go ?_
    k_steps
    · rename Fr _ _ _ _ => Fz
      rename News _ _ _ _ => Nz
      exact JEnd.intro _ Fz Nz (sub_cons (by k_mem) (sub_cons (by k_mem) (sub_cons (by k_mem) sub_nil))) (by repeat (first | exact sub_self | refine sub_tail ?_)) (own3 (OwnOff.ne ho (by k_memK)) (OwnOff.ne ho (by k_memK)) (OwnOff.ne ho (by k_memK)))
        (WsJ.mk (vch := some (.str ⟨#[c]⟩ u)) (ws_blank hc (by assumption) hgo) hin ⟨by omega, by omega, by omega, by omega⟩ hla (mext ["ch", "nt", "n", "b", "count", "S", "T", "self", "ws"] ⟨rfl, rfl, rfl, rfl, rfl, rfl, rfl, rfl, rfl, trivial⟩ (by intro y hy; simp only [Off] at hy; simp [wsMap, mput, mnil, hy])))
    refine IfAt.go ?_
    k_steps
    · have hgl := wsGrow_length (cns := cns) (b := b)
      refine IfAt.cutS (WsCut2 g L' (fun tn tnt la => wsMap (some (.str ⟨#[c]⟩ u)) (n + 1) b (nt + 1) tn tb tnt t la x ws) ((x, instObj 100 d) :: (d, dictOf [⟨PyData.keyHash w.params "raw", .str "raw" tkr, .str ws t⟩] 1) :: own) own x d (wsGrow cns b)) ?cut2 ?rest2
      case cut2 =>
        refine IfAt.go ?_
        k_steps
        · rename Fr _ _ _ _ => Fz
          rename News _ _ _ _ => Nz
          rename IntsAre _ _ => hI
          rw [← ws_grown (by assumption)] at hI
          have hal := ‹_ ∧ _ ∧ _ ∧ _ ∧ _ ∧ AllLt _ own›
          exact ⟨_, _, _, _, _, _, _, rfl, rfl, hI, by constructor <;> omega, ooX (ne_of_allLt hal.2.2.2.2.2) (ooX (OwnOff.ne ho (by k_memK)) (ooX (OwnOff.ne ho (by k_memK)) oo0)), Fr.eq Fz (mext ["ch", "nt", "n", "b", "count", "S", "T", "self", "ws"] ⟨rfl, rfl, rfl, rfl, rfl, rfl, rfl, rfl, rfl, trivial⟩ (by intro y hy; simp only [Off] at hy; simp [wsMap, mput, mnil, hy])), News.sub Nz (sub_cons (by k_mem) (sub_cons (by k_mem) (sub_cons (by k_mem) (by repeat (first | exact sub_self | refine sub_tail ?_)))))⟩
        · rename Fr _ _ _ _ => Fz
          rename News _ _ _ _ => Nz
          exact ⟨_, _, _, _, _, _, _, rfl, rfl, by rw [ws_same (by assumption)]; exact hin, hla, ho, Fr.eq Fz (mext ["ch", "nt", "n", "b", "count", "S", "T", "self", "ws"] ⟨rfl, rfl, rfl, rfl, rfl, rfl, rfl, rfl, rfl, trivial⟩ (by intro y hy; simp only [Off] at hy; simp [wsMap, mput, mnil, hy])), Nz⟩
      case rest2 =>
        rintro f s' ⟨h9, tk9, tn9, tnt9, cvs9, la9, k9, rfl, rfl, hin9, hla9, ho9, F₉, N₉⟩
        have hcl9 : cvs9.length = (wsGrow cns b).length := hin9.length
        have hg1 : (wsGrow cns b).length ≤ 101 := Nat.le_trans hgl.1 (Nat.max_le.mpr ⟨by omega, by omega⟩)
        have hg2 := hgl.2
        have hg3 : (b : Int) < ((wsGrow cns b).length : Int) := by omega
        rename Fr _ _ _ _ => Fq
        rename News _ _ _ _ => Nq
        dsimp only
        refine wpAny_execs_cons ?_
        k_steps
        rename Fr _ _ _ _ => Fz
        rename News _ _ _ _ => Nz
        rename IntsAre (List.set _ _ _) _ => hI
        rw [show ((wsGrow cns b).set (b : Int).toNat ((wsGrow cns b).getD (b : Int).toNat 0 + 1)) = wsBump cns b by rw [wsBump, Int.toNat_natCast]] at hI
        have hbl := wsBump_length (cns := cns) (b := b)
        exact JEnd.intro _ Fz Nz (sub_cons (by k_mem) (sub_cons (by k_mem) (sub_cons (by k_mem) sub_nil))) (by repeat (first | exact sub_self | refine sub_tail ?_)) (own3 (OwnOff.ne ho9 (.head _)) (OwnOff.ne ho (by k_memK)) (OwnOff.ne ho (by k_memK)))
          (WsJ.mk (vch := some (.str ⟨#[c]⟩ u)) (ws_tab hc (by assumption) (by assumption) hgo) hI ⟨by omega, by omega, by omega, by omega⟩ hla9 (mext ["ch", "nt", "n", "b", "count", "S", "T", "self", "ws"] ⟨rfl, rfl, rfl, rfl, rfl, rfl, rfl, rfl, rfl, trivial⟩ (by intro y hy; simp only [Off] at hy; simp [wsMap, mput, mnil, hy])))
    · rename Fr _ _ _ _ => Fz
      rename News _ _ _ _ => Nz
      exact ⟨_, _, tkr, _, n, b, nt, cvs, cns, tn, tb, tnt, la, k, rfl, rfl, ws_stop hc (by assumption) (by assumption) hgo, hin, by omega, by omega, by omega, by omega, hla, Fr.eq Fz (mext ["ch", "nt", "n", "b", "count", "S", "T", "self", "ws"] ⟨rfl, rfl, rfl, rfl, rfl, rfl, rfl, rfl, rfl, trivial⟩ (by intro y hy; simp only [Off] at hy; simp [wsMap, mput, mnil, hy])), News.sub Nz (sub_cons (by k_mem) (sub_cons (by k_mem) (sub_cons (by k_mem) sub_nil)))⟩
end
end Mine

theorem Mine.tt_p_less : True := by w_top off; exact trivial
namespace Mine
-- WHITESPACE: indent_level, longest_run_of_spaces, less
abbrev WsR := Nat × Nat × Nat × List Int
inductive WsIn (P : Params) (news : List (Addr × Obj)) (x : Addr) (r : WsR) : Prop where
  | mk (ws : Str) (d D D1 : Addr) (cvs : List Value) (t t1 t2 t3 t4 t5 t6 t7 t8 : Tok) (h0 : (x, instObj 100 d) ∈ news) (h1 : (d, dictOf [⟨PyData.keyHash P "raw", .str "raw" t1, .str ws t⟩, ⟨PyData.keyHash P "n", .str "n" t2, .int (r.1 : Int) t7⟩, ⟨PyData.keyHash P "nt", .str "nt" t3, .int (r.2.2.1 : Int) t8⟩, ⟨PyData.keyHash P "norm", .str "norm" t4, .ref D⟩, ⟨PyData.keyHash P "is_simple", .str "is_simple" t5, .bool (decide ((r.2.2.2.length : Int) ≤ 1))⟩] 5) ∈ news) (h2 : (D, { cls := .type "tuple", data := .seq #[.ref D1, .int (r.2.1 : Int) t6] }) ∈ news) (h3 : (D1, { cls := .type "tuple", data := .seq cvs.toArray }) ∈ news) (h4 : IntsAre cvs r.2.2.2) : WsIn P news x r
def wsIl (cns : List Int) (ts : Nat) : Nat → Int
  | 0 => 0
  | k + 1 => wsIl cns ts k + ((ts : Int) + (k : Int)).fdiv (ts : Int) * cns.getD (ts + k) 0
def wsLevel (r : WsR) (ts : Nat) : Int := (r.2.1 : Int) + (ts : Int) * (wsIl r.2.2.2 ts (r.2.2.2.length - ts) + (r.2.2.1 : Int))
theorem WsIn.mono {P : Params} {news news' : List (Addr × Obj)} {x : Addr} {r : WsR} (h : WsIn P news x r) (k : ∀ p ∈ news, p ∈ news') : WsIn P news' x r := by
  obtain ⟨ws, d, D, D1, cvs, t0, t1, t2, t3, t4, t5, t6, t7, t8, m1, m2, m3, m4, hi⟩ := h
  exact ⟨ws, d, D, D1, cvs, t0, t1, t2, t3, t4, t5, t6, t7, t8, k _ m1, k _ m2, k _ m3, k _ m4, hi⟩
inductive IndJ (led : List (Addr × Obj)) (x D1 : Addr) (b ts : Nat) (t6 t : Tok) (cns : List Int) (i : Nat) (m₁ : Str → Option Value) (nx : List (Addr × Obj)) : Prop where
  | mk (vi : Option Value) (til : Tok) (h0 : m₁ = mput "i" vi (mput "il" (some (.int (wsIl cns ts i) til)) (mput "trailing" (some (.int (b : Int) t6)) (mput "count" (some (.ref D1)) (mput "tabsize" (some (.int (ts : Int) t)) (mput "self" (some (.ref x)) mnil)))))) (h1 : nx = led) : IndJ led x D1 b ts t6 t cns i m₁ nx
section
variable {w : World} {dp un : Nat} {gd : Option (List Code)} {cn : Str} {cs : Scope} {a : Addr} {ccd : Value} {cl : List (Str × Addr)} {outer : List Env} {A₀ : Around} {base h₀ : Heap} {L : Addr} {m mg mb : Str → Option Value} {p : Program} {loose : List Str} {mean : ExcName → Option Value} {s : Shared} {Q E : Value → Shared → Prop} {news : List (Addr × Obj)}
theorem indent_call {x : Addr} {r : WsR} {ts : Nat} {t : Tok} (B : Below A₀ base outer h₀) (F : Fr h₀ L s.heap m) (X : (Mine.hdm.heap_1 w.params).In h₀) (N : News h₀ L s.heap news) (T : Top p loose mean mg mb h₀) (hk : cs.kind = .function) (hd : dp + 5 < recursionLimit)
  (hx : WsIn w.params news x r) (hts : 1 ≤ ts ∧ ts ≤ 200) (hlen : r.2.2.2.length ≤ 101)
  (ret : ∀ tk h' tk', Fr h₀ L h' m → News h₀ L h' news → Q (.int (wsLevel r ts) tk) {s with heap := h', toks := tk'}) :
  wpAny (model PySem.Challenge.pw_pg0318_03 w) (ktrTop dp un gd cn cs L a ccd cl outer) (call (.ref 69) [.ref x, .int (ts : Int) t]) Q E s := by
  obtain ⟨n, b, nt, cns⟩ := r
  obtain ⟨ws, d, D, D1, cvs, t0, t1, t2, t3, t4, t5, t6, t7, t8, m1, m2, m3, m4, hi⟩ := hx
  dsimp only at m1 m2 m3 m4 hi hlen
  refine wpAny_call ?_
  have hsub := sub_cons m1 (sub_cons m2 (sub_cons m3 (sub_cons m4 sub_nil)))
  have N₁ := News.sub N hsub
  ktr_enter
  intro g L' h₂ hgs hgk hgn F₂ N₂ B₂ X₂ T₂
  clear hgs hgn B N₁
  change Fr g L' h₂ (mput "tabsize" (some (.int (ts : Int) t)) (mput "self" (some (.ref x)) mnil)) at F₂
  try dsimp only
  k_fold
  try (refine Mine.set_walk ?_; intro A₉ e₉)
  have hcl : cvs.length = cns.length := hi.length
  k_steps
  rename IsRange _ _ _ _ _ _ _ _ => hr
  rename News _ _ _ _ => Nn
  rename Fr _ _ _ _ => Fn
  refine' Mine.range_J (IndJ [(x, instObj 100 d), (d, dictOf [⟨PyData.keyHash w.params "raw", .str "raw" t1, .str ws t0⟩, ⟨PyData.keyHash w.params "n", .str "n" t2, .int (n : Int) t7⟩, ⟨PyData.keyHash w.params "nt", .str "nt" t3, .int (nt : Int) t8⟩, ⟨PyData.keyHash w.params "norm", .str "norm" t4, .ref D⟩, ⟨PyData.keyHash w.params "is_simple", .str "is_simple" t5, .bool (decide ((cns.length : Int) ≤ 1))⟩] 5), (D, { cls := .type "tuple", data := .seq #[.ref D1, .int (b : Int) t6] }), (D1, { cls := .type "tuple", data := .seq cvs.toArray })] x D1 b ts t6 t cns) ?hh hr ?ha ?hb Fn Nn ?hj ?turn ?done ?ht
  case hh => rfl
  case ht => intro _ _; rfl
  case ha => omega
  case hb => omega
  case hj => exact ⟨none, _, mext ["i", "il", "trailing", "count", "tabsize", "self"] ⟨rfl, rfl, rfl, rfl, rfl, rfl, trivial⟩ (by intro y hy; simp only [Off] at hy; simp [mput, mnil, hy]), rfl⟩
  case done =>
    rintro m₁ nx h tk ⟨vi, til, rfl, rfl⟩ F₃ N₃
    clear Fn Nn
    have e5 : ((cns.length : Int) - (ts : Int)).toNat = cns.length - ts := by omega
    rw [e5] at F₃
    k_steps
    rename Fr _ _ _ _ => Fz
    rename News _ _ _ _ => Nz
    obtain ⟨F', N'⟩ := leave_ro F N hsub hgk Fz Nz sub_self
    exact ret _ _ _ F' N'
  case turn =>
    rintro i u m₁ nx h tk own hi' hoff ⟨vi, til, rfl, rfl⟩ F₃ N₃
    simp only [List.cons_append, List.nil_append] at N₃
    clear Fn Nn
    have e6 : 0 ≤ ((ts : Int) + (i : Int)).fdiv ts ∧ ((ts : Int) + (i : Int)).fdiv ts ≤ ts + i := by
      rw [Int.fdiv_eq_ediv_of_nonneg _ (by omega)]; exact ⟨Int.ediv_nonneg (by omega) (by omega), Int.ediv_le_self _ (by omega)⟩
    k_steps
    rename News _ _ _ _ => Nz
    rename Fr _ _ _ _ => Fz
    rw [show ((ts : Int) + (i : Int)).toNat = ts + i by omega] at Fz
    exact JEnd.intro _ Fz Nz (sub_cons (by k_mem) (sub_cons (by k_mem) (sub_cons (by k_mem) (sub_cons (by k_mem) sub_nil)))) (by repeat (first | exact sub_self | refine sub_tail ?_)) hoff ⟨some _, _, mext ["i", "il", "trailing", "count", "tabsize", "self"] ⟨rfl, rfl, rfl, rfl, rfl, rfl, trivial⟩ (by intro y hy; simp only [Off] at hy; simp [mput, mnil, hy]), rfl⟩
theorem indent_callZ {x : Addr} {r : WsR} {z : Int} {t : Tok} (B : Below A₀ base outer h₀) (F : Fr h₀ L s.heap m) (X : (Mine.hdm.heap_1 w.params).In h₀) (N : News h₀ L s.heap news) (T : Top p loose mean mg mb h₀) (hk : cs.kind = .function) (hd : dp + 5 < recursionLimit)
  (hx : WsIn w.params news x r) (hts : 1 ≤ z ∧ z ≤ 200) (hlen : r.2.2.2.length ≤ 101)
  (ret : ∀ tk h' tk', Fr h₀ L h' m → News h₀ L h' news → Q (.int (wsLevel r z.toNat) tk) {s with heap := h', toks := tk'}) :
  wpAny (model PySem.Challenge.pw_pg0318_03 w) (ktrTop dp un gd cn cs L a ccd cl outer) (call (.ref 69) [.ref x, .int z t]) Q E s := by
  obtain ⟨ts, rfl⟩ : ∃ ts : Nat, z = (ts : Int) := ⟨z.toNat, by omega⟩
  exact indent_call B F X N T hk hd hx (by omega) hlen ret
end
end Mine

theorem Mine.tt_p_less2 : True := by w_top off; exact trivial
namespace Mine
section
variable {prog : Program} {w : World} {A : Around} {E : Value → Shared → Prop} {s : Shared} {env : Env} {h₀ : Heap} {Q : Flow → Shared → Prop} {target iter : PySem.Expr} {body : List Stmt} {pos : Pos}
theorem range_L {r : Addr} {a₀ b₀ : Int} {t₀ u₀ v₀ : Tok} {m₀ : Str → Option Value} {news : List (Addr × Obj)} (Jf : List (Addr × Obj) → Nat → (Str → Option Value) → List (Addr × Obj) → Prop) {L : Addr} (hh : A.handled = none) (hr : IsRange s.heap r a₀ b₀ 1 t₀ u₀ v₀)
    (ha : -(2 ^ 20) ≤ a₀ ∧ a₀ ≤ 2 ^ 20) (hb : -(2 ^ 20) ≤ b₀ ∧ b₀ ≤ 2 ^ 20) (F : Fr h₀ L s.heap m₀) (N : News h₀ L s.heap news) (hj : Jf news 0 m₀ news)
    (turn : ∀ (i : Nat) u m₁ nx h tk own, i < (b₀ - a₀).toNat → (∀ p ∈ nx, ∀ q ∈ own, p.1 ≠ q.1) → Jf news i m₁ nx → Fr h₀ L h m₁ → News h₀ L h (nx ++ own) →
      wpAny (model prog w) A (assign target env (.int (a₀ + (i : Int)) u)) (fun _ s₃ => wpAny (model prog w) A (execs body env) (JPost h₀ L (Jf news (i + 1)) own { s with heap := h, toks := tk } Q) (fun _ _ => False) s₃) (fun _ _ => False) { s with heap := h, toks := tk })
    (done : ∀ m₁ nx h tk, Jf news (b₀ - a₀).toNat m₁ nx → Fr h₀ L h m₁ → News h₀ L h nx → Q .next { s with heap := h, toks := tk })
    (ht : ∀ v I, letOwnedTupleGo target (.ref I) v = pure () := by intro _ _; rfl) :
    wpAny (model prog w) A (pyIter (.ref r)) (fun it s₂ => JAt prog w A env target body Q E it s₂) E s :=  range_J (Jf news) hh hr ha hb F N hj turn done ht
end
def lrF (r : WsR) : Int := max ((r.2.2.2.length : Int) - 1) (r.2.1 : Int)
section
variable {w : World} {dp un : Nat} {gd : Option (List Code)} {cn : Str} {cs : Scope} {a : Addr} {ccd : Value} {cl : List (Str × Addr)} {outer : List Env} {A₀ : Around} {base h₀ : Heap} {L : Addr} {m mg mb : Str → Option Value} {p : Program} {loose : List Str} {mean : ExcName → Option Value} {s : Shared} {Q E : Value → Shared → Prop} {news : List (Addr × Obj)}
theorem longest_call {x : Addr} {r : WsR} (B : Below A₀ base outer h₀) (F : Fr h₀ L s.heap m) (X : (Mine.hdm.heap_1 w.params).In h₀) (N : News h₀ L s.heap news) (T : Top p loose mean mg mb h₀) (hk : cs.kind = .function) (hd : dp + 5 < recursionLimit)
  (hx : WsIn w.params news x r) (hlen : r.2.2.2.length ≤ 101)
  (ret : ∀ tk h' tk', Fr h₀ L h' m → News h₀ L h' news → Q (.int (lrF r) tk) {s with heap := h', toks := tk'}) :
  wpAny (model PySem.Challenge.pw_pg0318_03 w) (ktrTop dp un gd cn cs L a ccd cl outer) (call (.ref 62) [.ref x]) Q E s := by
  obtain ⟨n, b, nt, cns⟩ := r
  obtain ⟨ws, d, D, D1, cvs, t0, t1, t2, t3, t4, t5, t6, t7, t8, m1, m2, m3, m4, hi⟩ := hx
  dsimp only at m1 m2 m3 m4 hi hlen
  refine wpAny_call ?_
  have hsub := sub_cons m1 (sub_cons m2 (sub_cons m3 (sub_cons m4 sub_nil)))
  have N₁ := News.sub N hsub
  ktr_enter
  intro g L' h₂ hgs hgk hgn F₂ N₂ B₂ X₂ T₂
  clear hgs hgn B N₁
  change Fr g L' h₂ (mput "self" (some (.ref x)) mnil) at F₂
  try dsimp only
  k_fold
  try (refine Mine.set_walk ?_; intro A₉ e₉)
  have hcl : cvs.length = cns.length := hi.length
  k_steps
  rename Fr _ _ _ _ => Fz
  rename News _ _ _ _ => Nz
  obtain ⟨F', N'⟩ := leave_ro F N hsub hgk Fz Nz sub_self
  have e : (if (b : Int) > (cvs.length : Int) - 1 then (b : Int) else (cvs.length : Int) - 1) = lrF (n, b, nt, cns) := by
    unfold lrF; dsimp only; rw [← hcl]; split
    · next h => exact (Int.max_eq_right (Int.le_of_lt h)).symm
    · next h => exact (Int.max_eq_left (Int.not_lt.mp h)).symm
  rw [e]
  exact ret _ _ _ F' N'
end
theorem lrF_le {r : WsR} (h : r.2.2.2.length ≤ 101 ∧ r.2.1 ≤ 101) : -1 ≤ lrF r ∧ lrF r ≤ 101 :=
  ⟨Int.le_trans (by decide : (-1 : Int) ≤ 0) (Int.le_trans (Int.natCast_nonneg _) (Int.le_max_right _ _)), Int.max_le.mpr ⟨by omega, by omega⟩⟩
abbrev lessN (r q : WsR) : Int := if lrF q > lrF r then lrF q else lrF r
theorem lessN_le {r q : WsR} (h : r.2.2.2.length ≤ 101 ∧ r.2.1 ≤ 101) (h2 : q.2.2.2.length ≤ 101 ∧ q.2.1 ≤ 101) : -1 ≤ lessN r q ∧ lessN r q ≤ 101 := by
  unfold lessN; split
  · exact lrF_le h2
  · exact lrF_le h
def lessF (r q : WsR) : Bool := if r.1 ≥ q.1 then false else if r.2.2.2.length ≤ 1 ∧ q.2.2.2.length ≤ 1 then decide (r.2.2.1 ≤ q.2.2.1) else (List.range (lessN r q).toNat).all fun k => decide (wsLevel r (k + 2) < wsLevel q (k + 2))
theorem lessF_n {r q : WsR} (h : r.1 ≥ q.1) : lessF r q = false := by rw [lessF, if_pos h]
theorem lessF_s {r q : WsR} (h : ¬ r.1 ≥ q.1) (h2 : r.2.2.2.length ≤ 1 ∧ q.2.2.2.length ≤ 1) : lessF r q = decide (r.2.2.1 ≤ q.2.2.1) := by rw [lessF, if_neg h, if_pos h2]
theorem lessF_all {r q : WsR} (h : ¬ r.1 ≥ q.1) (h2 : ¬ (r.2.2.2.length ≤ 1 ∧ q.2.2.2.length ≤ 1)) (h3 : ∀ k, k < (lessN r q).toNat → wsLevel r (k + 2) < wsLevel q (k + 2)) : lessF r q = true := by
  rw [lessF, if_neg h, if_neg h2, List.all_eq_true]
  intro k hk
  exact decide_eq_true (h3 k (List.mem_range.mp hk))
theorem lessF_ex {r q : WsR} {k : Nat} (h : ¬ r.1 ≥ q.1) (h2 : ¬ (r.2.2.2.length ≤ 1 ∧ q.2.2.2.length ≤ 1)) (hk : k < (lessN r q).toNat) (h3 : ¬ wsLevel r (k + 2) < wsLevel q (k + 2)) : lessF r q = false := by
  rw [lessF, if_neg h, if_neg h2, List.all_eq_false]
  exact ⟨k, List.mem_range.mpr hk, by simpa using h3⟩
inductive LessJ (led : List (Addr × Obj)) (x y : Addr) (r q : WsR) (i : Nat) (m₁ : Str → Option Value) (nx : List (Addr × Obj)) : Prop where
  | mk0 (vi : Option Value) (tn : Tok) (h0 : m₁ = mput "ts" vi (mput "n" (some (.int (lessN r q + 1) tn)) (mput "other" (some (.ref y)) (mput "self" (some (.ref x)) mnil)))) (h1 : (∀ k, k < i → wsLevel r (k + 2) < wsLevel q (k + 2))) (h2 : nx = led) : LessJ led x y r q i m₁ nx
theorem LessJ.mk {led : List (Addr × Obj)} {x y : Addr} {r q : WsR} {i : Nat} {m₁ : Str → Option Value} {vi : Option Value} {tn : Tok} (hm : m₁ = mput "ts" vi (mput "n" (some (.int (lessN r q + 1) tn)) (mput "other" (some (.ref y)) (mput "self" (some (.ref x)) mnil))))
  (h : ∀ k, k < i → wsLevel r (k + 2) < wsLevel q (k + 2)) : LessJ led x y r q i m₁ led := ⟨vi, tn, hm, h, rfl⟩
theorem WsIn.first {P : Params} {tl news : List (Addr × Obj)} {x d D D1 : Addr} {ws : Str} {n b nt : Nat} {cns : List Int} {cvs : List Value} {t0 t1 t2 t3 t4 t5 t6 t7 t8 : Tok} (hi : IntsAre cvs cns) (_hs : ∀ p ∈ (x, instObj 100 d) :: (d, dictOf [⟨PyData.keyHash P "raw", .str "raw" t1, .str ws t0⟩, ⟨PyData.keyHash P "n", .str "n" t2, .int (n : Int) t7⟩, ⟨PyData.keyHash P "nt", .str "nt" t3, .int (nt : Int) t8⟩, ⟨PyData.keyHash P "norm", .str "norm" t4, .ref D⟩, ⟨PyData.keyHash P "is_simple", .str "is_simple" t5, .bool (decide ((cns.length : Int) ≤ 1))⟩] 5) :: (D, { cls := .type "tuple", data := .seq #[.ref D1, .int (b : Int) t6] }) :: (D1, { cls := .type "tuple", data := .seq cvs.toArray }) :: tl, p ∈ news) : WsIn P ((x, instObj 100 d) :: (d, dictOf [⟨PyData.keyHash P "raw", .str "raw" t1, .str ws t0⟩, ⟨PyData.keyHash P "n", .str "n" t2, .int (n : Int) t7⟩, ⟨PyData.keyHash P "nt", .str "nt" t3, .int (nt : Int) t8⟩, ⟨PyData.keyHash P "norm", .str "norm" t4, .ref D⟩, ⟨PyData.keyHash P "is_simple", .str "is_simple" t5, .bool (decide ((cns.length : Int) ≤ 1))⟩] 5) :: (D, { cls := .type "tuple", data := .seq #[.ref D1, .int (b : Int) t6] }) :: (D1, { cls := .type "tuple", data := .seq cvs.toArray }) :: tl) x (n, b, nt, cns) :=
  ⟨ws, d, D, D1, cvs, t0, t1, t2, t3, t4, t5, t6, t7, t8, .head _, .tail _ (.head _), .tail _ (.tail _ (.head _)), .tail _ (.tail _ (.tail _ (.head _))), hi⟩
theorem WsIn.fifth {P : Params} {tl news : List (Addr × Obj)} {e₁ e₂ e₃ e₄ : Addr × Obj} {x d D D1 : Addr} {ws : Str} {n b nt : Nat} {cns : List Int} {cvs : List Value} {t0 t1 t2 t3 t4 t5 t6 t7 t8 : Tok} (hi : IntsAre cvs cns) (_hs : ∀ p ∈ e₁ :: e₂ :: e₃ :: e₄ :: (x, instObj 100 d) :: (d, dictOf [⟨PyData.keyHash P "raw", .str "raw" t1, .str ws t0⟩, ⟨PyData.keyHash P "n", .str "n" t2, .int (n : Int) t7⟩, ⟨PyData.keyHash P "nt", .str "nt" t3, .int (nt : Int) t8⟩, ⟨PyData.keyHash P "norm", .str "norm" t4, .ref D⟩, ⟨PyData.keyHash P "is_simple", .str "is_simple" t5, .bool (decide ((cns.length : Int) ≤ 1))⟩] 5) :: (D, { cls := .type "tuple", data := .seq #[.ref D1, .int (b : Int) t6] }) :: (D1, { cls := .type "tuple", data := .seq cvs.toArray }) :: tl, p ∈ news) : WsIn P (e₁ :: e₂ :: e₃ :: e₄ :: (x, instObj 100 d) :: (d, dictOf [⟨PyData.keyHash P "raw", .str "raw" t1, .str ws t0⟩, ⟨PyData.keyHash P "n", .str "n" t2, .int (n : Int) t7⟩, ⟨PyData.keyHash P "nt", .str "nt" t3, .int (nt : Int) t8⟩, ⟨PyData.keyHash P "norm", .str "norm" t4, .ref D⟩, ⟨PyData.keyHash P "is_simple", .str "is_simple" t5, .bool (decide ((cns.length : Int) ≤ 1))⟩] 5) :: (D, { cls := .type "tuple", data := .seq #[.ref D1, .int (b : Int) t6] }) :: (D1, { cls := .type "tuple", data := .seq cvs.toArray }) :: tl) x (n, b, nt, cns) :=
  WsIn.mono (WsIn.first hi (news := (x, instObj 100 d) :: (d, dictOf [⟨PyData.keyHash P "raw", .str "raw" t1, .str ws t0⟩, ⟨PyData.keyHash P "n", .str "n" t2, .int (n : Int) t7⟩, ⟨PyData.keyHash P "nt", .str "nt" t3, .int (nt : Int) t8⟩, ⟨PyData.keyHash P "norm", .str "norm" t4, .ref D⟩, ⟨PyData.keyHash P "is_simple", .str "is_simple" t5, .bool (decide ((cns.length : Int) ≤ 1))⟩] 5) :: (D, { cls := .type "tuple", data := .seq #[.ref D1, .int (b : Int) t6] }) :: (D1, { cls := .type "tuple", data := .seq cvs.toArray }) :: tl) fun _ h => h) fun _ h => .tail _ (.tail _ (.tail _ (.tail _ h)))
section
variable {w : World} {dp un : Nat} {gd : Option (List Code)} {cn : Str} {cs : Scope} {a : Addr} {ccd : Value} {cl : List (Str × Addr)} {outer : List Env} {A₀ : Around} {base h₀ : Heap} {L : Addr} {m mg mb : Str → Option Value} {p : Program} {loose : List Str} {mean : ExcName → Option Value} {s : Shared} {Q E : Value → Shared → Prop} {news : List (Addr × Obj)}
end
local macro_rules | `(tactic| walk_at "α") => `(tactic| exact WsIn.mono (by assumption) (by first | ((repeat (first | exact sub_self | refine sub_tail ?_)); done) | (repeat (first | exact sub_nil | refine sub_cons (by k_mem) ?_))))
local macro_rules | `(tactic| walk_at "β") => `(tactic| (dsimp only; omega))
local macro_rules | `(tactic| walk_at "call ref") => Mine.ln `Mine.longest_call 9 0 false "AaBaCaDaEaFkHαIβGr" none 0 0 "Iabcde D F"
local macro_rules | `(tactic| walk_at "call ref") => Mine.ln `Mine.indent_callZ 10 0 false "AaBaCaDaEaFkHαIoJβGr" none 0 0 "Iabcde D F"
inductive LessCut (P : Prop) (v : Value) (s : Shared) (f : Flow) (s' : Shared) : Prop where
  | ret tk (h0 : f = .ret v) (h1 : P) (h2 : s' = {s with toks := tk}) : LessCut P v s f s'
  | go tk (h0 : f = .next) (h1 : ¬P) (h2 : s' = {s with toks := tk}) : LessCut P v s f s'
local macro_rules | `(tactic| walk_at "exec If") => Mine.ln `Mine.if_stop 0 0 false "" none 0 0 ""
section
variable {w : World} {dp un : Nat} {gd : Option (List Code)} {cn : Str} {cs : Scope} {a : Addr} {ccd : Value} {cl : List (Str × Addr)} {outer : List Env} {A₀ : Around} {base h₀ : Heap} {L : Addr} {m mg mb : Str → Option Value} {p : Program} {loose : List Str} {mean : ExcName → Option Value} {s : Shared} {Q E : Value → Shared → Prop} {news : List (Addr × Obj)}
theorem less_call {x y : Addr} {r q : WsR} (B : Below A₀ base outer h₀) (F : Fr h₀ L s.heap m) (X : (Mine.hdm.heap_1 w.params).In h₀) (N : News h₀ L s.heap news) (T : Top p loose mean mg mb h₀) (hk : cs.kind = .function) (hd : dp + 7 < recursionLimit)
  (hx : WsIn w.params news x r) (hy : WsIn w.params news y q) (hlen : r.2.2.2.length ≤ 101 ∧ r.2.1 ≤ 101) (hlen2 : q.2.2.2.length ≤ 101 ∧ q.2.1 ≤ 101)
  (ret : ∀ h' tk', Fr h₀ L h' m → News h₀ L h' news → Q (.bool (lessF r q)) {s with heap := h', toks := tk'}) :
  wpAny (model PySem.Challenge.pw_pg0318_03 w) (ktrTop dp un gd cn cs L a ccd cl outer) (call (.ref 90) [.ref x, .ref y]) Q E s := by
  obtain ⟨n, b, nt, cns⟩ := r
  obtain ⟨ws, d, D, D1, cvs, t0, t1, t2, t3, t4, t5, t6, t7, t8, m1, m2, m3, m4, hi⟩ := hx
  obtain ⟨n', b', nt', cns'⟩ := q
  obtain ⟨ws', d', D', D1', cvs', t0', t1', t2', t3', t4', t5', t6', t7', t8', m1', m2', m3', m4', hi'⟩ := hy
  dsimp only at m1 m2 m3 m4 hi hlen m1' m2' m3' m4' hi' hlen2
  refine wpAny_call ?_
  have hsub := sub_cons m1 (sub_cons m2 (sub_cons m3 (sub_cons m4 (sub_cons m1' (sub_cons m2' (sub_cons m3' (sub_cons m4' sub_nil)))))))
  have N₁ := News.sub N hsub
  ktr_enter
  intro g L' h₂ hgs hgk hgn F₂ N₂ B₂ X₂ T₂
  clear hgs hgn B N₁
  change Fr g L' h₂ (mput "other" (some (.ref y)) (mput "self" (some (.ref x)) mnil)) at F₂
  try dsimp only
  k_fold
  try (refine Mine.set_walk ?_; intro A₉ e₉)
  have hcl : cvs.length = cns.length := hi.length
  have hcl' : cvs'.length = cns'.length := hi'.length
  have hx' := WsIn.first hi hsub
  have hy' := WsIn.fifth hi' hsub
  k_steps
  refine IfAt.go ?_
  k_steps
  · rename Fr _ _ _ _ => Fz
    rename News _ _ _ _ => Nz
    obtain ⟨F', N'⟩ := leave_ro F N hsub hgk Fz Nz sub_self
    have e := lessF_n (r := (n, b, nt, cns)) (q := (n', b', nt', cns')) (by first | omega | (simp only [decide_eq_true_eq, decide_eq_false_iff_not] at *; omega))
    exact e ▸ ret _ _ F' N'
  have hn1 : ¬ n ≥ n' := by first | omega | (simp only [decide_eq_true_eq, decide_eq_false_iff_not] at *; omega)
  refine IfAt.cutS (LessCut (cns.length ≤ 1 ∧ cns'.length ≤ 1) (.bool (decide ((nt : Int) ≤ (nt' : Int))))) ?cut ?rest
  case cut =>
    refine IfAt.go ?_
    k_steps
    · exact .ret _ rfl (by first | omega | (simp only [decide_eq_true_eq, decide_eq_false_iff_not] at *; omega)) rfl
    · exact .go _ rfl (by first | omega | (simp only [decide_eq_true_eq, decide_eq_false_iff_not] at *; omega)) rfl
    · exact .go _ rfl (by first | omega | (simp only [decide_eq_true_eq, decide_eq_false_iff_not] at *; omega)) rfl
  case rest =>
    rename Fr _ _ _ _ => Fz
    rename News _ _ _ _ => Nz
    rintro f s' (⟨tk, rfl, hs1, rfl⟩ | ⟨tk, rfl, hs1, rfl⟩)
    · obtain ⟨F', N'⟩ := leave_ro F N hsub hgk Fz Nz sub_self
      have e := lessF_s (r := (n, b, nt, cns)) (q := (n', b', nt', cns')) hn1 hs1
      have e2 : decide ((nt : Int) ≤ (nt' : Int)) = decide (nt ≤ nt') := by simp
      rw [e2]
      exact e ▸ ret _ _ F' N'
    dsimp only
    refine wpAny_execs_cons ?_
    k_steps
    rename IsRange _ _ _ _ _ _ _ _ => hr
    rename Fr _ _ _ _ => Fn
    rename News _ _ _ _ => Nn
    have hN : lessN (n, b, nt, cns) (n', b', nt', cns') = (if lrF (n', b', nt', cns') > lrF (n, b, nt, cns) then lrF (n', b', nt', cns') else lrF (n, b, nt, cns)) := rfl
    have hNb : -1 ≤ lessN (n, b, nt, cns) (n', b', nt', cns') ∧ lessN (n, b, nt, cns) (n', b', nt', cns') ≤ 101 := lessN_le hlen hlen2
    rw [← hN] at hr Fn
    refine' Mine.range_L (fun led => LessJ led x y (n, b, nt, cns) (n', b', nt', cns')) ?hh hr ?ha ?hb Fn Nn ?hj ?turn ?done ?ht
    case hh => rfl
    case ht => intro _ _; rfl
    case ha => omega
    case hb => omega
    case hj => exact LessJ.mk (vi := none) (mext ["ts", "n", "other", "self"] ⟨rfl, rfl, rfl, rfl, trivial⟩ (by intro y hy; simp only [Off] at hy; simp [mput, mnil, hy])) (fun k hk => absurd hk (Nat.not_lt_zero _))
    case done =>
      rintro m₁ nx h tk ⟨vi, tn, rfl, hall, rfl⟩ F₃ N₃
      clear Fn Nn
      k_steps
      rename Fr _ _ _ _ => Fz
      rename News _ _ _ _ => Nz
      obtain ⟨F', N'⟩ := leave_ro F N hsub hgk Fz Nz sub_self
      have e := lessF_all (r := (n, b, nt, cns)) (q := (n', b', nt', cns')) hn1 hs1 (fun k hk => hall k (by omega))
      exact e ▸ ret _ _ F' N'
    case turn =>
      rintro i u m₁ nx h tk own hi' hoff ⟨vi, tn, rfl, hall, rfl⟩ F₃ N₃
      simp only [List.cons_append, List.nil_append] at N₃
      clear Fn Nn
      k_steps
      refine IfAt.go ?_
      k_steps
      all_goals try dsimp only [JPost]
      · rename Fr _ _ _ _ => Fz
        rename News _ _ _ _ => Nz
        rename wsLevel _ _ ≥ wsLevel _ _ => hge
        rw [show (2 + (i : Int)).toNat = i + 2 by omega] at hge
        obtain ⟨F', N'⟩ := leave_ro F N hsub hgk Fz Nz (by repeat (first | exact sub_nil | refine sub_cons (by k_mem) ?_))
        have e := lessF_ex (r := (n, b, nt, cns)) (q := (n', b', nt', cns')) (k := i) hn1 hs1 (by omega) (by omega)
        exact e ▸ ret _ _ F' N'
      · rename Fr _ _ _ _ => Fz
        rename News _ _ _ _ => Nz
        rename ¬ wsLevel _ _ ≥ wsLevel _ _ => hge
        rw [show (2 + (i : Int)).toNat = i + 2 by omega] at hge
        exact JEnd.intro _ Fz Nz (by repeat (first | exact sub_nil | refine sub_cons (by k_mem) ?_)) (by repeat (first | exact sub_self | refine sub_tail ?_)) hoff
          (LessJ.mk (vi := some _) (mext ["ts", "n", "other", "self"] ⟨rfl, rfl, rfl, rfl, trivial⟩ (by intro y hy; simp only [Off] at hy; simp [mput, mnil, hy])) (fun k hk => by
            rcases Nat.lt_succ_iff_lt_or_eq.mp hk with h | rfl
            · exact hall k h
            · omega))
end
end Mine

theorem Mine.tt_p_col : True := by w_top off; exact trivial
namespace Mine
-- LAW 03: _law_column
def colGo (size : Nat) : List Nat → Nat → Nat
  | [], c => c
  | x :: r, c => if x = 32 then colGo size r (c + 1) else colGo size r (c / size * size + size)
section
variable {ws : Str} {i c col T size : Nat}
theorem col_blank (hc : ws.cps[i]? = some c) (e : (⟨#[c]⟩ == Str.ofString " ") = true) (h : T = colGo size (ws.cps.toList.drop i) col) : T = colGo size (ws.cps.toList.drop (i + 1)) (col + 1) := by
  rw [sgn (k := 32) (by decide +kernel)] at e
  rw [h, ws_drop hc, colGo, if_pos (of_decide_eq_true e)]
theorem col_tab (hc : ws.cps[i]? = some c) (e : (⟨#[c]⟩ == Str.ofString " ") = false) (h : T = colGo size (ws.cps.toList.drop i) col) : T = colGo size (ws.cps.toList.drop (i + 1)) (col / size * size + size) := by
  rw [sgn (k := 32) (by decide +kernel)] at e
  rw [h, ws_drop hc, colGo, if_neg (of_decide_eq_false e)]
theorem col_end (h : T = colGo size (ws.cps.toList.drop ws.cps.size) col) : T = col := by
  rw [h, ← Array.length_toList, List.drop_length, colGo]
end
abbrev colMap (vs : Option Value) (col : Nat) (tc : Tok) (size : Nat) (ts : Tok) (ws : Str) (tw : Tok) : Str → Option Value :=
  mput "sign" vs (mput "column" (some (.int (col : Int) tc)) (mput "size" (some (.int (size : Int) ts)) (mput "lead" (some (.str ws tw)) mnil)))
inductive ColJ (ws : Str) (tw : Tok) (size : Nat) (ts : Tok) (i : Nat) (m₁ : Str → Option Value) (nx : List (Addr × Obj)) : Prop where
  | mk vs col tc (h0 : m₁ = colMap vs col tc size ts ws tw) (h1 : nx = []) (h2 : colGo size ws.cps.toList 0 = colGo size (ws.cps.toList.drop i) col) : ColJ ws tw size ts i m₁ nx
section
variable {w : World} {dp un : Nat} {gd : Option (List Code)} {cn : Str} {cs : Scope} {a : Addr} {ccd : Value} {cl : List (Str × Addr)} {outer : List Env} {A₀ : Around} {base h₀ : Heap} {L : Addr} {m mg mb : Str → Option Value} {p : Program} {loose : List Str} {mean : ExcName → Option Value} {s : Shared} {Q E : Value → Shared → Prop} {news : List (Addr × Obj)}
theorem column_call {ws : Str} {tw ts : Tok} {size : Nat} (B : Below A₀ base outer h₀) (F : Fr h₀ L s.heap m) (X : (Mine.hdm.heap_1 w.params).In h₀) (N : News h₀ L s.heap news) (T : Top p loose mean mg mb h₀) (hk : cs.kind = .function) (hd : dp + 5 < recursionLimit)
  (hs : 1 ≤ size ∧ size ≤ 10)
  (ret : ∀ tc h' tk', Fr h₀ L h' m → News h₀ L h' news → Q (.int (colGo size ws.cps.toList 0 : Int) tc) {s with heap := h', toks := tk'}) :
  wpAny (model PySem.Challenge.pw_pg0318_03 w) (ktrTop dp un gd cn cs L a ccd cl outer) (call (.ref 316) [.str ws tw, .int (size : Int) ts]) Q E s := by
  refine wpAny_call ?_
  have N₁ : News h₀ L s.heap [] := News.sub N sub_nil
  ktr_enter
  intro g L' h₂ hgs hgk hgn F₂ N₂ B₂ X₂ T₂
  clear hgs hgn B N₁
  change Fr g L' h₂ (mput "size" (some (.int (size : Int) ts)) (mput "lead" (some (.str ws tw)) mnil)) at F₂
  try dsimp only
  k_fold
  try (refine Mine.set_walk ?_; intro A₉ e₉)
  k_steps
  rename News _ _ _ _ => Nn
  rename Fr _ _ _ _ => Fn
  refine' Mine.str_J (ColJ ws tw size ts) ?hh Fn Nn ?hj ?turn ?done ?ht
  case hh => rfl
  case ht => intro _ _; rfl
  case hj => exact ⟨none, 0, _, mext ["sign", "column", "size", "lead"] ⟨rfl, rfl, rfl, rfl, trivial⟩ (by intro y hy; simp only [Off] at hy; simp [colMap, mput, mnil, hy]), rfl, rfl⟩
  case done =>
    rintro m₁ nx h tk ⟨vs, col, tc, rfl, rfl, hgo⟩ F₃ N₃
    rw [col_end hgo] at ret
    clear Fn Nn
    k_steps
    rename Fr _ _ _ _ => Fz
    rename News _ _ _ _ => Nz
    obtain ⟨F', N'⟩ := leave_ro F N sub_nil hgk Fz Nz sub_nil
    exact ret _ _ _ F' N'
  case turn =>
    rintro i c u m₁ nx h tk own hc hoff ⟨vs, col, tc, rfl, rfl, hgo⟩ F₃ N₃
    clear Fn Nn
    have hnc : (col : Int) / (size : Int) * (size : Int) + (size : Int) = ((col / size * size + size : Nat) : Int) := by
      rw [Int.natCast_add, Int.natCast_mul, Int.natCast_ediv]
    have hnf : (col : Int).fdiv (size : Int) * (size : Int) + (size : Int) = ((col / size * size + size : Nat) : Int) := by
      rw [Int.fdiv_eq_ediv_of_nonneg _ (Int.natCast_nonneg _)]; exact hnc
    k_steps
    · rename Fr _ _ _ _ => Fz
      rename News _ _ _ _ => Nz
      exact JEnd.intro [] Fz Nz sub_nil (fun q hq => hq) hoff ⟨some (.str ⟨#[c]⟩ u), col + 1, _, mext ["sign", "column", "size", "lead"] ⟨rfl, rfl, rfl, rfl, trivial⟩ (by intro y hy; simp only [Off] at hy; simp [colMap, mput, mnil, hy]), rfl, col_blank hc (by assumption) hgo⟩
    · rename Fr _ _ _ _ => Fz
      rename News _ _ _ _ => Nz
      rw [hnf] at Fz
      exact JEnd.intro [] Fz Nz sub_nil (fun q hq => hq) hoff ⟨some (.str ⟨#[c]⟩ u), col / size * size + size, _, mext ["sign", "column", "size", "lead"] ⟨rfl, rfl, rfl, rfl, trivial⟩ (by intro y hy; simp only [Off] at hy; simp [colMap, mput, mnil, hy]), rfl, col_tab hc (by assumption) hgo⟩
end
end Mine

-- AN ATTRIBUTE LAID ON A FUNCTION, AND READ BACK
namespace Mine
open PySem PySem.Builtin PySem.Builtin.ObjectAttr
theorem fn_store : StoreFacts "function" [.type "function", .type "object"] "object.__setattr__" "object" where
  mro := by kernel_rfl
  slot := .of (owner := "object") (n := "__setattr__") (by rw [typeLookup_type, builtinLookup_eq_fast]; kernel_rfl) (by decide +kernel) (by decide +kernel) (by decide +kernel)
    (by first | exact .inl (by decide +kernel) | exact .inr (by decide +kernel)) (by rw [isSubtype_type]; kernel_rfl)
  entry := F.entry_object_sa
  kind := by decide +kernel
  split := by decide +kernel
  hasOwner := by decide +kernel
  args := fun a b c => by unfold argsOk; kernel_rfl
  passes := fun self => by kernel_rfl
theorem fn_has : typeHasDict (.type "function") = true := by decide +kernel
section
variable {prog : Program} {w : World} {A : Around} {E : Value → Shared → Prop} {h : Heap} {g : Array GenState} {d : Drawn} {t : Nat} {os : OsState} {x : Addr} {fd : FuncData} {sl : Array (Option Value)} {name : Str} {v : Value}
theorem fn_entry {tk : Tok} {Q : Fin → Shared → Prop} (hB : typeLookup (.type "function") name = pure none) (hx : h.get? x = some ⟨.type "function", none, .func fd, sl⟩)
    (hq : ∀ h' tk', h'.get? x = some ⟨.type "function", some h.objs.size, .func fd, sl⟩ → h'.Ns1 h.objs.size (fun y => if y = name then some v else none) →
      (∀ b o, b ≠ x → h.get? b = some o → h'.get? b = some o) → Q (.done (.ret .none)) ⟨h', g, d, tk', os⟩) :
    wpAny (model prog w) A (Builtin.«object.__setattr__» ⟨[.ref x, .str name tk, v], []⟩) Q E ⟨h, g, d, t, os⟩ := by
  have hpass := fn_store.passes (.ref x)
  have hT : (Shared.mk h g d t os).TypeIs (.ref x) "function" := ⟨_, hx, rfl⟩
  have hmro := fn_store.mro
  have hx₁ : (h.push { cls := .type "dict", data := .dict #[] }).get? x = some ⟨.type "function", none, .func fd, sl⟩ := Heap.get?_push_of_some _ hx
  have hxs : x ≠ h.objs.size := Nat.ne_of_lt (Heap.lt_size hx)
  have hgd : ((h.push { cls := .type "dict", data := .dict #[] }).update x fun o => { cls := o.cls, dict := some h.objs.size, data := o.data, slots := o.slots }).get? h.objs.size
      = some { cls := .type "dict", data := .dict #[] } := (Heap.get?_update_ne _ _ _ _ hxs.symm).trans (Heap.get?_push_at rfl rfl)
  have hnd : ((h.push { cls := .type "dict", data := .dict #[] }).update x fun o => { cls := o.cls, dict := some h.objs.size, data := o.data, slots := o.slots }).Ns h.objs.size (fun _ => none) :=
    ⟨_, #[], _, hgd, rfl, fun e he => absurd he (by simp), fun _ => rfl⟩
  unfold Builtin.«object.__setattr__»
  repeat (first | (with_reducible (first | refine PySem.wpAny_bind ?_ | refine PySem.wpAny_pure ?_)) | rw [refuse_eq] | rw [hpass] | (with_reducible refine wpAny_typeOf hT ?_) | rw [hmro] | rw [hB] | ((with_reducible refine wpAny_nsSet1 (m := fun _ => none) ?hns ?_); (case hns => exact Heap.Ns1.of_empty hnd); intro h' hn' hs) | wp_step)
  obtain ⟨oD, esD, epD, hoD, hdD, hcD⟩ := hn'.count (Within.cons name v Within.nil)
  have hpl : oD.data.pastItsLine = none := by rw [hdD]; exact pastItsLine_dict (Nat.le_trans hcD (by rw [List.length_cons, List.length_nil, sizeLine_eq]; omega))
  refine wpAny_loadPart_at hoD ?_
  rw [hpl]
  wp_walk
  refine hq h' _ ?_ hn' fun b o hbx hb => ?_
  · refine (hs.2 x hxs).trans (Heap.get?_update_self _ hx₁ rfl)
  · exact (hs.2 b (Nat.ne_of_lt (Heap.lt_size hb))).trans ((Heap.get?_update_ne _ _ _ _ hbx).trans (Heap.get?_push_of_some _ hb))
theorem fn_setattr {Q : Unit → Shared → Prop} (hB : typeLookup (.type "function") name = pure none) (hx : h.get? x = some ⟨.type "function", none, .func fd, sl⟩)
    (hq : ∀ h' tk', h'.get? x = some ⟨.type "function", some h.objs.size, .func fd, sl⟩ → h'.Ns1 h.objs.size (fun y => if y = name then some v else none) →
      (∀ b o, b ≠ x → h.get? b = some o → h'.get? b = some o) → Q () ⟨h', g, d, tk', os⟩) :
    wpAny (model prog w) A (setAttr (.ref x) name v) Q E ⟨h, g, d, t, os⟩ := by
  have hT : (Shared.mk h g d t os).TypeIs (.ref x) "function" := ⟨_, hx, rfl⟩
  have f3 := fn_store.slot.bind (.ref x)
  have f2 := fn_store.slot.lookup
  unfold setAttr callSpecial? specialOf
  repeat (any_goals (first | assumption | (with_reducible refine wpAny_typeOf hT ?_) | rw [f2] | wp_step))
  refine codeAny_call_builtin fn_store.slot.plain fn_store.entry (fn_store.slot.check _ _ _ _ _ _ _ _ hT (fn_store.args _ _ _) (fn_entry hB hx fun h' tk' a b c => ?_))
  repeat (any_goals (first | assumption | wp_step))
  exact hq h' tk' a b c
theorem fn_lk_ga : typeLookup (.type "function") "__getattribute__" = pure (some (.builtin "object.__getattribute__")) := by rw [typeLookup_type, builtinLookup_eq_fast]; kernel_rfl
theorem fn_lk_getattr : typeLookup (.type "function") "__getattr__" = pure none := by rw [typeLookup_type, builtinLookup_eq_fast]; kernel_rfl
theorem fn_lk_read : typeLookup (.type "function") "read" = pure none := by rw [typeLookup_type, builtinLookup_eq_fast]; kernel_rfl
theorem fn_entry_ga : entryFor table "object.__getattribute__" = some Builtin.«object.__getattribute__» := entryFor_of_tree (by kernel_rfl)
theorem fn_slot_ga : Slot "function" "__getattribute__" "object.__getattribute__" :=
  .of (owner := "object") (n := "__getattribute__") fn_lk_ga (by decide +kernel) (by decide +kernel) (by decide +kernel)
    (by first | exact .inl (by decide +kernel) | exact .inr (by decide +kernel)) (by rw [isSubtype_type]; kernel_rfl)
theorem fn_args_ga (a b : Value) : argsOk "object.__getattribute__" ⟨[a, b], []⟩ := by unfold argsOk; kernel_rfl
theorem fn_load {tk : Tok} {dx : Addr} {mA : Str → Option Value} {Q : Fin → Shared → Prop} (hB : typeLookup (.type "function") name = pure none) (hx : h.get? x = some ⟨.type "function", some dx, .func fd, sl⟩) (hns : h.Ns1 dx mA) (hv : mA name = some v)
    (hq : Q (.done (.ret v)) ⟨h, g, d, t, os⟩) :
    wpAny (model prog w) A (Builtin.«object.__getattribute__» ⟨[.ref x, .str name tk], []⟩) Q E ⟨h, g, d, t, os⟩ := by
  have hT : (Shared.mk h g d t os).TypeIs (.ref x) "function" := ⟨_, hx, rfl⟩
  unfold Builtin.«object.__getattribute__»
  repeat (first | (with_reducible refine wpAny_typeOf hT ?_) | rw [hB] | (with_reducible refine wpAny_nsGet hns.ns ?_; rw [hv]) | wp_step)
  exact hq
theorem fn_getattr {expr : Bool} {dx : Addr} {mA : Str → Option Value} {Q : Value → Shared → Prop} (hB : typeLookup (.type "function") name = pure none) (hx : h.get? x = some ⟨.type "function", some dx, .func fd, sl⟩) (hns : h.Ns1 dx mA) (hv : mA name = some v)
    (hh : handedOut v = pure v) (hq : Q v ⟨h, g, d, t + 1, os⟩) : wpAny (model prog w) A (getAttr (.ref x) name expr) Q E ⟨h, g, d, t, os⟩ := by
  have hT : (Shared.mk h g d t os).TypeIs (.ref x) "function" := ⟨_, hx, rfl⟩
  have hT1 : (Shared.mk h g d (t + 1) os).TypeIs (.ref x) "function" := ⟨_, hx, rfl⟩
  have hg := fn_lk_ga
  unfold getAttr getAttrBy
  repeat (first | (with_reducible refine wpAny_typeOf hT ?_) | (with_reducible refine wpAny_typeOf hT1 ?_) | rw [hg] | wp_step)
  have fin : wpAny (model prog w) A (boundAndCalled (.builtin "object.__getattribute__") (.ref x) (.str name t)) (fun a s' => wpAny (model prog w) A (handedOut a) Q E s') (fun e s' => wpAny (model prog w) A (getattributeRaised (.ref x) (.str name t) (.type "function") e none true expr) Q E s') ⟨h, g, d, t + 1, os⟩ := by
    have f3 := fn_slot_ga.bind (.ref x)
    unfold boundAndCalled
    repeat (first | rw [f3] | wp_step)
    refine codeAny_call_builtin fn_slot_ga.plain fn_entry_ga (fn_slot_ga.check _ _ _ _ _ _ _ _ hT1 (fn_args_ga _ _) (fn_load hB hx hns hv ?_))
    show wpAny _ _ (handedOut v) _ _ _
    rw [hh]
    exact wpAny_pure hq
  cases expr <;> exact fin
theorem fn_getmethod {pl : Sem Bool} {dx : Addr} {mA : Str → Option Value} {Q : Value × List Value → Shared → Prop} (hB : typeLookup (.type "function") name = pure none) (hx : h.get? x = some ⟨.type "function", some dx, .func fd, sl⟩) (hns : h.Ns1 dx mA) (hv : mA name = some v)
    (hh : handedOut v = pure v) (hq : Q (v, []) ⟨h, g, d, t + 1, os⟩) : wpAny (model prog w) A (getMethod (.ref x) name pl) Q E ⟨h, g, d, t, os⟩ := by
  have hT : (Shared.mk h g d t os).TypeIs (.ref x) "function" := ⟨_, hx, rfl⟩
  have hg := fn_lk_ga
  have hg2 := fn_lk_getattr
  have hcan := F.canon_object_ga
  unfold getMethod specialOf
  repeat (first | (with_reducible refine fn_getattr hB hx hns hv hh ?_) | (with_reducible refine wpAny_typeOf hT ?_) | rw [hg] | rw [hg2] | rw [hB] | simp only [hcan, Bool.false_eq_true, if_false] | wp_step)
  exact hq
end
end Mine

-- iter(f, ''): THE NEXT OF AN ITERATOR OVER CALLS
namespace Mine
open PySem PySem.Builtin
theorem ci_slot : Slot "callable_iterator" "__next__" "callable_iterator.__next__" :=
  .of (owner := "callable_iterator") (n := "__next__") (by rw [typeLookup_type, builtinLookup_eq_fast]; kernel_rfl) (by decide +kernel) (by decide +kernel) (by decide +kernel)
    (by first | exact .inl (by decide +kernel) | exact .inr (by decide +kernel)) (by rw [isSubtype_type]; kernel_rfl)
theorem ci_entry : entryFor table "callable_iterator.__next__" = some Builtin.«callable_iterator.__next__» := entryFor_of_tree (by kernel_rfl)
theorem ci_args (a : Value) : argsOk "callable_iterator.__next__" ⟨[a], []⟩ := by unfold argsOk; kernel_rfl
abbrev ciObj (b : Addr) (t0 : Tok) : Obj := { cls := .type "callable_iterator", data := .fields #[.ref b, .str "" t0, .bool false] }
abbrev ciEnd : Obj := { cls := .type "callable_iterator", data := .fields #[.none, .none, .bool true] }
abbrev methObj (f x : Addr) : Obj := { cls := .type "method", data := .fields #[.ref f, .ref x] }
section
variable {prog : Program} {w : World} {A : Around} {E : Value → Shared → Prop} {s : Shared} {I b f x : Addr} {t0 : Tok} {fd : FuncData} {fo : Option Addr} {fc : Value} {sl : Array (Option Value)}
theorem ci_borrowed {Q : Value → Shared → Prop} (hb : s.heap.get? b = some (methObj f x)) (hf : s.heap.get? f = some ⟨fc, fo, .func fd, sl⟩)
    (hc : codeAny (model prog w) A (.call (.ref b) ⟨[], []⟩) (fun r s' => match r with | .ok (.ret v) => Q v s' | .ok _ => False | .error e => E e s') s) :
    wpAny (model prog w) A (callOutOfASlot (.ref b)) Q E s := by
  unfold callOutOfASlot borrowsExactly
  repeat (first | (with_reducible refine wpAny_load hb ?_) | (with_reducible refine wpAny_load hf ?_) | wp_step)
  intro Γ p hΓ
  have this := wpAny_runValue hc Γ p hΓ
  rw [Sem.wp_runValue] at this
  rw [Sem.wp_call]
  refine Eq.mp ?_ this
  congr 1
  funext r s'
  cases r with
  | error e => rfl
  | ok f => cases f <;> rfl
theorem ci_next {Q : Option Value → Shared → Prop} (hh : A.handled = none) (hI : s.heap.get? I = some (ciObj b t0)) (hb : s.heap.get? b = some (methObj f x)) (hf : s.heap.get? f = some ⟨fc, fo, .func fd, sl⟩)
    (hc : codeAny (model prog w) A.in1 (.call (.ref f) ⟨[.ref x], []⟩) (fun r s' => ∃ c tk h' tk', r = .ok (.ret (.str c tk)) ∧ s' = { s with heap := h', toks := tk' } ∧ h'.get? I = some (ciObj b t0) ∧ h'.get? b = some (methObj f x) ∧ h'.get? f = some ⟨fc, fo, .func fd, sl⟩ ∧
      (c ≠ "" → Q (some (.str c tk)) { s with heap := h', toks := tk' }) ∧ (c = "" → ∀ h'', (∀ a o, a ≠ I → h'.get? a = some o → h''.get? a = some o) → h''.get? I = some ciEnd → Q none { s with heap := h'', toks := tk' })) s) :
    wpAny (model prog w) A (pyNext (.ref I)) Q E s := by
  have hT : s.TypeIs (.ref I) "callable_iterator" := ⟨_, hI, rfl⟩
  unfold pyNext
  refine wpAny_bind (wpAny_attempt (wpAny_callSpecial?_slot (name := Str.ofString "__next__") hT ci_slot (wpAny_call_entry ci_slot hT ci_entry ?_ (ci_args _))))
  show wpAny _ _ (field (.ref I) 2 >>= _) _ _ s
  refine wpAny_bind (wpAny_field hI rfl (x := .bool false) rfl ?_)
  show wpAny _ _ (field (.ref I) 0 >>= _) _ _ s
  refine wpAny_bind (wpAny_field hI rfl (x := .ref b) rfl ?_)
  refine wpAny_bind (wpAny_attempt (ci_borrowed hb hf (ks_codeAny_call_bound hb (codeAny_mono hc ?_))))
  rintro r s' ⟨c, tk, h', tk', rfl, rfl, hI', hb', hf', h1, h2⟩
  dsimp only
  refine wpAny_bind (wpAny_field hI' rfl (x := .bool false) rfl ?_)
  show wpAny _ _ (field (.ref I) 1 >>= _) _ _ _
  refine wpAny_bind (wpAny_field hI' rfl (x := .str "" t0) rfl ?_)
  refine wpAny_bind (wpAny_holding (wpAny_eqBool_str ?_))
  by_cases hc0 : c = Str.ofString ""
  · have e0 : (!decide (Str.ofString "" = c)) = false := by rw [hc0]; simp
    rw [e0]
    have hpast : ∀ h'', (∀ a o, a ≠ I → h'.get? a = some o → h''.get? a = some o) → h''.get? I = some ciEnd → Q none { s with heap := h'', toks := tk' } := h2 hc0
    rw [if_neg (by decide)]
    refine wpAny_bind (wpAny_rule (wpAny_bind ?_))
    show wpAny _ _ (field (.ref I) 0 >>= fun old => slotLetsGo "callable_iterator.__next__" old _ >>= fun _ => setField (.ref I) 0 .none >>= fun _ => setField (.ref I) 1 .none >>= fun _ => setField (.ref I) 2 (.bool true)) _ _ _
    refine wpAny_bind (wpAny_field hI' rfl (x := .ref b) rfl ?_)
    refine wpAny_bind ?_
    have hlg : ∀ (bz : Code → Bool) (K : Unit → Shared → Prop) (E' : Value → Shared → Prop) (s' : Shared), s'.heap = h' → K () s' → wpAny (model prog w) A.in1 (slotLetsGo "callable_iterator.__next__" (.ref b) bz) K E' s' := by
      intro bz K E' s' e hK
      have hb2 : s'.heap.get? b = some (methObj f x) := by rw [e]; exact hb'
      have hf2 : s'.heap.get? f = some ⟨fc, fo, .func fd, sl⟩ := by rw [e]; exact hf'
      unfold slotLetsGo borrowsExactly
      repeat (first | (with_reducible refine wpAny_load hb2 ?_) | (with_reducible refine wpAny_load hf2 ?_) | wp_step)
      exact hK
    refine hlg _ _ _ _ rfl ?_
    refine wpAny_bind (wpAny_setField_rec hI' (by simp) fun h₁ g₁ k₁ => ?_)
    refine wpAny_bind (wpAny_setField_rec g₁ (by simp) fun h₂ g₂ k₂ => ?_)
    refine wpAny_setField_rec g₂ (by simp) fun h₃ g₃ k₃ => ?_
    have kk : ∀ a o, a ≠ I → h'.get? a = some o → h₃.get? a = some o := fun a o n e => (k₃.2 a n).trans ((k₂.2 a n).trans ((k₁.2 a n).trans e))
    have gI : h₃.get? I = some ciEnd := g₃
    show wpAny _ _ (newExc (.type "StopIteration") [] >>= _) _ _ _
    refine wpAny_bind ?_
    simp only [newExc, newTuple]
    refine wpAny_bind (wpAny_newObj_type ?_ (by size_fits))
    refine wpAny_bind (m := firstArgMember _ _) (wpAny_of_eq (a := Value.none) (by first | rfl | (simp only [firstArgMember]; rfl)) ?_)
    refine wpAny_newObj_type ?_ (by size_fits)
    simp only [raiseNew]
    refine wpAny_bind (wpAny_handled ?_)
    rw [show A.in1.handled = none from hh]
    refine wpAny_bind (wpAny_pure (wpAny_throw ?_))
    refine wpAny_bind (wpAny_isInstance (T := "StopIteration") (b := true) ⟨_, Heap.get?_push_size _ rfl, rfl⟩ isSubtype_stop ?_)
    refine wpAny_pure (hpast _ (fun a o n e => Heap.get?_push_of_some _ (Heap.get?_push_of_some _ (kk a o n e))) (Heap.get?_push_of_some _ (Heap.get?_push_of_some _ gI)))
  · have e0 : (!decide (Str.ofString "" = c)) = true := by rw [decide_eq_false (fun e => hc0 e.symm)]; rfl
    rw [e0, if_pos rfl]
    exact wpAny_pure ⟨_, rfl, wpAny_pure (h1 hc0)⟩
theorem ci_slot_iter : Slot "callable_iterator" "__iter__" "callable_iterator.__iter__" :=
  .of (owner := "callable_iterator") (n := "__iter__") (by rw [typeLookup_type, builtinLookup_eq_fast]; kernel_rfl) (by decide +kernel) (by decide +kernel) (by decide +kernel)
    (by first | exact .inl (by decide +kernel) | exact .inr (by decide +kernel)) (by rw [isSubtype_type]; kernel_rfl)
theorem ci_entry_iter : entryFor table "callable_iterator.__iter__" = some Builtin.«dict_keyiterator.__iter__» :=
  entryFor_alias (id' := "dict_keyiterator.__iter__") (by kernel_rfl) rfl (by decide +kernel) (by kernel_rfl)
theorem ci_args_iter (a : Value) : argsOk "callable_iterator.__iter__" ⟨[a], []⟩ := by unfold argsOk; kernel_rfl
theorem ci_pyIter {o : Obj} {Q : Value → Shared → Prop} (hI : s.heap.get? I = some o) (hc : o.cls = .type "callable_iterator") (h : Q (.ref I) s) : wpAny (model prog w) A (pyIter (.ref I)) Q E s := by
  have hT : s.TypeIs (.ref I) "callable_iterator" := ⟨_, hI, hc⟩
  refine wpAny_pyIter_slot hT ci_slot_iter (wpAny_call_entry ci_slot_iter hT ci_entry_iter ?_ (ci_args_iter _))
  show wpAny _ _ (ret (.ref I)) _ _ s
  exact wpAny_pure ⟨_, rfl, "callable_iterator", _, hT, ci_slot.lookup, h⟩
theorem ci_meth_call : typeLookup (.type "method") "__call__" = pure (some (.builtin "method.__call__")) := by rw [typeLookup_type, builtinLookup_eq_fast]; kernel_rfl
theorem ci_args2 (a b : Value) : argsOk "iter" ⟨[a, b], []⟩ := by unfold argsOk; kernel_rfl
theorem ci_entry0 : entryFor table "iter" = some Builtin.«iter» := entryFor_of_fast (by kernel_rfl)
theorem ci_iter {Q : Value → Shared → Prop} (hb : s.heap.get? b = some (methObj f x)) (h : Q (.ref s.heap.objs.size) { s with heap := s.heap.push (ciObj b t0) }) :
    wpAny (model prog w) A (call (.builtin "iter") [.ref b, .str "" t0]) Q E s := by
  have hv := ci_meth_call
  have hT : s.TypeIs (.ref b) "method" := ⟨_, hb, rfl⟩
  refine Calls.call_function_entry (by decide +kernel) (by decide +kernel) ci_entry0 (ci_args2 _ _) ?_
  unfold Builtin.«iter» specialOf
  repeat (first | (with_reducible refine wpAny_typeOf hT ?_) | rw [hv] | wp_step)
  exact ⟨_, rfl, h⟩
end
end Mine

-- SEVERAL OBJECTS OF THE LEDGER TURNED BY ONE CALL; LOOPS OVER iter(f, '')
namespace Mine
open PySem.Calls
inductive UpdS (ch : List (Addr × Obj)) : List (Addr × Obj) → List (Addr × Obj) → Prop
  | nil : UpdS ch [] []
  | own {r} : (∀ q ∈ ch, ∀ p ∈ r, p.1 ≠ q.1) → UpdS ch r r
  | hit {a o o' r r'} : (a, o') ∈ ch → UpdS ch r r' → UpdS ch ((a, o) :: r) ((a, o') :: r')
  | skip {p r r'} : (∀ q ∈ ch, q.1 ≠ p.1) → UpdS ch r r' → UpdS ch (p :: r) (p :: r')
theorem News.updS {h₀ h h' : Heap} {L : Addr} {ch news news' : List (Addr × Obj)} (u : UpdS ch news news') (N : News h₀ L h news) (K : Keeps (ch.map (·.1)) h h') (N' : News h₀ L h' ch) : News h₀ L h' news' := by
  have keep : ∀ p : Addr × Obj, (∀ q ∈ ch, q.1 ≠ p.1) → h.get? p.1 = some p.2 → h'.get? p.1 = some p.2 := fun p hp e => K _ _ e fun q => by
    obtain ⟨r, hr, e'⟩ := List.mem_map.mp q
    exact hp r hr e'
  induction u with
  | nil => exact fun _ h => nomatch h
  | own hr => exact fun p hp => ⟨keep p (fun q hq e => hr q hq p hp e.symm) (N p hp).1, (N p hp).2⟩
  | hit hm _ ih => exact List.forall_mem_cons.mpr ⟨N' _ hm, ih (News.sub N fun p hp => .tail _ hp)⟩
  | skip hp _ ih => exact List.forall_mem_cons.mpr ⟨⟨keep _ hp (N _ (.head _)).1, (N _ (.head _)).2⟩, ih (News.sub N fun p hp => .tail _ hp)⟩
theorem leave_S {h₀ h₁ g h' : Heap} {L L' : Addr} {m m' : Str → Option Value} {known news out : List (Addr × Obj)} (fp : List Addr) (F₁ : Fr h₀ L h₁ m) (N₁ : News h₀ L h₁ news) (hs : ∀ p ∈ known, p ∈ news) (hgk : Keeps (known.map (·.1)) h₁ g) (F' : Fr g L' h' m') (N' : News g L' h' out) (ho : ∀ p ∈ known, p ∈ out ∨ p.1 ∈ fp) :
    Fr h₀ L h' m ∧ Keeps fp h₁ h' ∧ News h₀ L h' out := by
  obtain ⟨F'', N'', hk⟩ := leave F₁ (News.sub N₁ hs) hgk F' N'
  refine ⟨F'', fun b o e n => ?_, N''⟩
  by_cases q : b ∈ known.map (·.1)
  · obtain ⟨r, hr, e'⟩ := List.mem_map.mp q
    rcases ho r hr with h1 | h1
    · have a := (N₁ r (hs r hr)).1
      rw [e', e] at a
      have : r.2 = o := (Option.some.inj a).symm
      have := (N'' r h1).1
      rw [e'] at this
      rw [this]; congr 1
    · exact absurd (e' ▸ h1) n
  · exact hk _ _ e q
section
variable {prog : Program} {w : World} {A : Around} {E : Value → Shared → Prop} {s : Shared} {I : Addr}
theorem ci_next_end {Q : Option Value → Shared → Prop} (hh : A.handled = none) (hI : s.heap.get? I = some ciEnd)
    (h : ∀ h', (∀ a o, s.heap.get? a = some o → h'.get? a = some o) → Q none { s with heap := h' }) : wpAny (model prog w) A (pyNext (.ref I)) Q E s := by
  have hT : s.TypeIs (.ref I) "callable_iterator" := ⟨_, hI, rfl⟩
  unfold pyNext
  refine wpAny_bind (wpAny_attempt (wpAny_callSpecial?_slot (name := Str.ofString "__next__") hT ci_slot (wpAny_call_entry ci_slot hT ci_entry ?_ (ci_args _))))
  show wpAny _ _ (field (.ref I) 2 >>= _) _ _ s
  refine wpAny_bind (wpAny_field hI rfl (x := .bool true) rfl ?_)
  refine wpAny_bind (wpAny_rule (wpAny_bind ?_))
  show wpAny _ _ (newExc (.type "StopIteration") [] >>= _) _ _ _
  refine wpAny_bind ?_
  simp only [newExc, newTuple]
  refine wpAny_bind (wpAny_newObj_type ?_ (by size_fits))
  refine wpAny_bind (m := firstArgMember _ _) (wpAny_of_eq (a := Value.none) (by first | rfl | (simp only [firstArgMember]; rfl)) ?_)
  refine wpAny_newObj_type ?_ (by size_fits)
  simp only [raiseNew]
  refine wpAny_bind (wpAny_handled ?_)
  rw [show A.in1.handled = none from hh]
  refine wpAny_bind (wpAny_pure (wpAny_throw ?_))
  refine wpAny_bind (wpAny_isInstance (T := "StopIteration") (b := true) ⟨_, Heap.get?_push_size _ rfl, rfl⟩ isSubtype_stop ?_)
  exact wpAny_pure (h _ fun a o e => Heap.get?_push_of_some _ (Heap.get?_push_of_some _ e))
theorem ci_iter_K {h₀ : Heap} {L f x b : Addr} {t0 : Tok} {m : Str → Option Value} {news : List (Addr × Obj)} {Q : Value → Shared → Prop} (F : Fr h₀ L s.heap m) (N : News h₀ L s.heap news) (hb : (b, methObj f x) ∈ news)
    (h : ∀ I h', Fr h₀ L h' m → News h₀ L h' ((I, ciObj b t0) :: news) → (∀ p ∈ news, p.1 < I) → Q (.ref I) { s with heap := h' }) :
    wpAny (model prog w) A (call (.builtin "iter") [.ref b, .str "" t0]) Q E s :=
  ci_iter (N _ hb).1 (h _ _ (F.push _) (N.push F _) fun p hp => Heap.lt_size (N p hp).1)
end
end Mine
-- WHILE by an invariant over map and ledger, and a measure
namespace Mine
section
variable {prog : Program} {w : World} {A : Around} {E : Value → Shared → Prop} {Q : Flow → Shared → Prop} {s : Shared} {env : Env} {h₀ : Heap} {L : Addr}
inductive WEnd (h₀ : Heap) (L : Addr) (J : Nat → (Str → Option Value) → List (Addr × Obj) → Prop) (n : Nat) (s s₂ : Shared) : Prop where
  | mk h' tk m' nx n' (h0 : s₂ = { s with heap := h', toks := tk }) (h1 : Fr h₀ L h' m') (h2 : News h₀ L h' nx) (h3 : n' < n) (h4 : J n' m' nx) : WEnd h₀ L J n s s₂
theorem WEnd.intro {J : Nat → (Str → Option Value) → List (Addr × Obj) → Prop} {n : Nat} {h' : Heap} {tk : Nat} {m' : Str → Option Value} {all : List (Addr × Obj)} (nx : List (Addr × Obj)) (n' : Nat) (F : Fr h₀ L h' m') (N : News h₀ L h' all) (sub : ∀ p ∈ nx, p ∈ all) (hn : n' < n) (hj : J n' m' nx) :
    WEnd h₀ L J n s { s with heap := h', toks := tk } := ⟨h', tk, m', nx, n', rfl, F, fun p hp => N p (sub p hp), hn, hj⟩
def WPost (h₀ : Heap) (L : Addr) (J : Nat → (Str → Option Value) → List (Addr × Obj) → Prop) (n : Nat) (s : Shared) (Q : Flow → Shared → Prop) (f : Flow) (s₂ : Shared) : Prop :=
  match f with
  | .ret v => Q (.ret v) s₂
  | .brk => Q .next s₂
  | _ => WEnd h₀ L J n s s₂
def WhileAt (prog : Program) (w : World) (A : Around) (test : PySem.Expr) (body : List Stmt) (pos : Pos) (env : Env) (Q : Flow → Shared → Prop) (E : Value → Shared → Prop) (s : Shared) : Prop := wpAny (model prog w) A (exec (.While test body [] pos) env) Q E s
theorem while_stop {test : PySem.Expr} {body : List Stmt} {pos : Pos} (h : WhileAt prog w A test body pos env Q E s) : wpAny (model prog w) A (exec (.While test body [] pos) env) Q E s := h
theorem while_J {test : PySem.Expr} {body : List Stmt} {pos : Pos} {m₀ : Str → Option Value} {news : List (Addr × Obj)} (Jf : List (Addr × Obj) → Nat → (Str → Option Value) → List (Addr × Obj) → Prop) (n₀ : Nat)
    (F : Fr h₀ L s.heap m₀) (N : News h₀ L s.heap news) (hJ : Jf news n₀ m₀ news)
    (turn : ∀ n m₁ nx h tk, Jf news n m₁ nx → Fr h₀ L h m₁ → News h₀ L h nx →
      wpAny (model prog w) A (isTrue test env (eval test env)) (fun b s₂ => if b = true then wpAny (model prog w) A (execs body env) (WPost h₀ L (Jf news) n s Q) (fun _ _ => False) s₂ else Q .next s₂) (fun _ _ => False) { s with heap := h, toks := tk }) :
    WhileAt prog w A test body pos env Q E s := by
  unfold WhileAt
  refine wpAny_While (codeAny_whileLoop (fun n s' => ∃ h₁ tk₁ m₁ nx, s' = { s with heap := h₁, toks := tk₁ } ∧ Fr h₀ L h₁ m₁ ∧ News h₀ L h₁ nx ∧ Jf news n m₁ nx) ?_ n₀ ⟨s.heap, s.toks, m₀, news, rfl, F, N, hJ⟩)
  rintro n s' ⟨h₁, tk₁, m₁, nx, rfl, F₁, N₁, J₁⟩
  refine wpAny_mono (turn n m₁ nx h₁ tk₁ J₁ F₁ N₁) (fun b s₂ h₂ => ?_) fun _ _ e => e.elim
  cases b with
  | false =>
    simp only [Bool.false_eq_true, if_false] at h₂ ⊢
    exact wpAny_execs_nil h₂
  | true =>
    simp only [if_true] at h₂ ⊢
    refine wpAny_mono h₂ (fun f s₃ h₃ => ?_) fun _ _ e => e.elim
    cases f with
    | next =>
      obtain ⟨h', tk, m₂, nx₂, n', rfl, F₂, N₂, hn, J₂⟩ := h₃
      exact ⟨n', hn, h', tk, m₂, nx₂, rfl, F₂, N₂, J₂⟩
    | cont =>
      obtain ⟨h', tk, m₂, nx₂, n', rfl, F₂, N₂, hn, J₂⟩ := h₃
      exact ⟨n', hn, h', tk, m₂, nx₂, rfl, F₂, N₂, J₂⟩
    | brk => exact h₃
    | ret v => exact h₃
end
end Mine

-- A NESTED DEF (its object in the ledger) ENTERED
namespace Mine
open PySem.Calls
section
variable {prog : Program} {w : World} {A A₀ : Around} {E : Value → Shared → Prop} {s : Shared} {K : Frag} {L : Addr} {h₀ base : Heap} {m mg mb : Str → Option Value} {p : Program} {loose : List Str} {mean : ExcName → Option Value}
theorem enter_nest (l : List (Str × Value)) {env : Env} {outer : List Env} {R : Result → Shared → Prop} {name qual : Str} {params : Arguments} {body : List Stmt} {scope : Scope} {clos : List (Str × Addr)} {dV kV doc pm cdv ct : Value} {an : Option Addr} {fo : Obj} {f : Addr} {args : Args} {binds : List (Str × Value)} {news : List (Addr × Obj)}
    (B : Below A₀ base outer h₀) (F : Fr h₀ L s.heap m) (X₀ : K.In h₀) (N : News h₀ L s.heap news) (T : Top p loose mean mg mb h₀) (hA : A.frames = some (env :: outer)) (hf : env.frame = some L) (hke : env.scope.kind = .function)
    (ho : s.heap.get? f = some fo) (hd : fo.data = .func (fnX name qual params body scope clos dV kV doc pm an cdv ct)) (hcd : s.heap.CodeRec cdv qual) (hroom : A.depth < recursionLimit)
    (hbind : BindsTo s (fnX name qual params body scope clos dV kV doc pm an cdv ct) args binds) (hl : binds.reverse = l) (hloc : ∀ y ∈ binds, scope.names.lookup y.1 = some .local)
    (h : ∀ g L' h₁, (∀ b o, g.get? b = some o → s.heap.get? b = some o) → Keeps (news.map (·.1)) s.heap g → (∀ b, s.heap.objs.size ≤ b → g.get? b = none) → Fr g L' h₁ (mlist l) → News g L' h₁ news → Below A base (env :: outer) g → K.In g → Top p loose mean mg mb g →
      wpAny (model prog w) (A.deeper (envX qual scope L' f cdv clos)) (execs body (envX qual scope L' f cdv clos))
        (fun fl s' => R (.ok (.ret (match fl with | .ret v => v | _ => .none))) s') (fun _ _ => False)
        { s with heap := h₁, toks := s.toks + binds.length })
    (hco : scope.isCoroutine = false) (hgen : scope.isGenerator = false) (hk : scope.kind = .function)
    (hcell : ∀ x ∈ scope.names, x.2 ≠ .cell) : codeAny (model prog w) A (.call (.ref f) args) R s := by
  obtain ⟨FG, BG, st, _⟩ := groundX (R := R) B F N hA hf hke
  refine codeAny_call_def (fd := fnX name qual params body scope clos dV kV doc pm an cdv ct) (body := body) (binds := binds) hroom ho hd (T.nolimit.keeps F.keep) hcd rfl hbind hcell hloc (fun h₁ hns hk₁ => ?_) hco hgen hk
  refine wpAny_mono (h (hideAll s.heap (news.map (·.1))) s.heap.objs.size h₁ (fun b o e => of_hideAll _ e) (fun b o e n => hideAll_get _ e n) (fun b hb => Heap.get?_none_of_le (by rw [hideAll_size]; exact hb)) (Fr.named l ⟨hns, fun b o e => hk₁ b o (of_hideAll _ e), Nat.le_of_eq (hideAll_size _ _)⟩ hl rfl)
    (fun p hp => ⟨hk₁ _ _ (N p hp).1, Nat.ne_of_lt (Heap.lt_size (N p hp).1), hideAll_none _ (List.mem_map_of_mem hp)⟩) BG (X₀.keeps fun b o e => st b o e) (T.keeps fun b o e => st b o e)) (fun fl s' hl => hl) fun _ _ y => y.elim
end
end Mine
namespace Mine
open PySem.Calls
section
variable {prog : Program} {w : World} {A A₀ : Around} {E : Value → Shared → Prop} {s : Shared} {K : Frag} {L : Addr} {h₀ base : Heap} {m mg mb : Str → Option Value} {p : Program} {loose : List Str} {mean : ExcName → Option Value}
theorem enter_cells {env : Env} {outer : List Env} {R : Result → Shared → Prop} {name qual : Str} {params : Arguments} {body : List Stmt} {scope : Scope} {dV kV doc pm cdv ct oc : Value} {an od : Option Addr} {osl : Array (Option Value)} {f : Addr} {args : Args} {binds : List (Str × Value)} {news : List (Addr × Obj)}
    (B : Below A₀ base outer h₀) (F : Fr h₀ L s.heap m) (X₀ : K.In h₀) (N : News h₀ L s.heap news) (T : Top p loose mean mg mb h₀) (hA : A.frames = some (env :: outer)) (hf : env.frame = some L) (hke : env.scope.kind = .function)
    (ho : K.lookup f = some ⟨oc, od, .func (fnOf name qual params body scope dV kV doc pm an cdv ct), osl⟩) (hcd : codeIn K cdv qual = true) (hroom : A.depth < recursionLimit)
    (hbind : BindsTo s (fnOf name qual params body scope dV kV doc pm an cdv ct) args binds) (hkind : (binds.all fun y => scope.names.lookup y.1 == some .local || scope.names.lookup y.1 == some .cell) = true)
    (hnd : ((cellsFrom 0 scope.names []).map (·.1)).Nodup)
    (h : ∀ g L' h₁ tk cells, (∀ b o, g.get? b = some o → s.heap.get? b = some o) → Keeps (news.map (·.1)) s.heap g → (∀ b, s.heap.objs.size ≤ b → g.get? b = none) → Fr g L' h₁ (bindL (envOfC qual scope L' f cdv).kindOf binds fun _ => none) → News g L' h₁ (cells ++ news) →
      CellsAre (bindC (envOfC qual scope L' f cdv).kindOf binds fun _ => none) (cellsFrom (L' + 1) scope.names []) cells → Below A base (env :: outer) g → K.In g → Top p loose mean mg mb g → (∀ p ∈ news, p.1 < L') →
      wpAny (model prog w) (A.deeper (envOfC qual scope L' f cdv)) (execs body (envOfC qual scope L' f cdv))
        (fun fl s' => R (.ok (.ret (match fl with | .ret v => v | _ => .none))) s') (fun _ _ => False)
        { s with heap := h₁, toks := tk })
    (hco : scope.isCoroutine = false) (hgen : scope.isGenerator = false) (hk : scope.kind = .function) : codeAny (model prog w) A (.call (.ref f) args) R s := by
  obtain ⟨FG, BG, st, _⟩ := groundX (R := R) B F N hA hf hke
  refine codeAny_call_function (fd := fnOf name qual params body scope dV kV doc pm an cdv ct) hroom ((X₀.keeps F.keep) _ _ ho) rfl hco hgen rfl (codeRec_of (X₀.keeps F.keep) hcd) (hbind _ _ _ _ ?_)
  refine wpAny_newFunctionEnv_cells hk (kindsX hkind _) fun env' he s' x => ?_
  subst he
  refine ⟨(T.nolimit.keeps F.keep).keeps x.toInCall.keep, codeAny_func ?_⟩
  obtain ⟨h₁, tk, rfl, _⟩ := x.done
  have hk₁ := x.toInCall.keep
  obtain ⟨cells, NC, Y⟩ := Cl.news (h₀ := s.heap) (Nat.le_refl _) fun n c hm => ⟨x.cell n c (lookup_of_mem_nodup (cellsFrom_names scope.names 0 (s.heap.objs.size + 1) [] [] rfl ▸ hnd) hm), x.above n c hm⟩
  refine wpAny_mono (h (hideAll s.heap (news.map (·.1))) s.heap.objs.size h₁ tk cells (fun b o e => of_hideAll _ e) (fun b o e n => hideAll_get _ e n) (fun b hb => Heap.get?_none_of_le (by rw [hideAll_size]; exact hb)) ⟨x.toInCall.ns, fun b o e => hk₁ b o (of_hideAll _ e), Nat.le_of_eq (hideAll_size _ _)⟩ (fun p hp => ?_) Y BG (X₀.keeps fun b o e => st b o e) (T.keeps fun b o e => st b o e) (fun p hp => Heap.lt_size (N p hp).1)) (fun fl s' hl => hl) fun _ _ y => y.elim
  rcases List.mem_append.mp hp with hp | hp
  · refine ⟨(NC p hp).1, (NC p hp).2.1, ?_⟩
    cases q : (hideAll s.heap (news.map (·.1))).get? p.1 with
    | none => rfl
    | some o => have := of_hideAll _ q; rw [(NC p hp).2.2] at this; cases this
  · exact ⟨hk₁ _ _ (N p hp).1, Nat.ne_of_lt (Heap.lt_size (N p hp).1), hideAll_none _ (List.mem_map_of_mem hp)⟩
end
end Mine

-- LISTS OF ANYTHING IN THE LEDGER
namespace Mine
open PySem.Calls
section
variable {prog : Program} {w : World} {A : Around} {E : Value → Shared → Prop} {s : Shared} {h₀ : Heap} {L l : Addr} {m : Str → Option Value} {news news' : List (Addr × Obj)} {vs : List Value} {k : Nat}
theorem isl (N : News h₀ L s.heap news) (hm : (l, W.listOf vs.toArray k) ∈ news) : s.heap.IsList l vs.toArray := ⟨_, (N _ hm).1, rfl, k, rfl⟩
theorem truthy_L {Q : Bool → Shared → Prop} (N : News h₀ L s.heap news) (hm : (l, W.listOf vs.toArray k) ∈ news) (hz : vs.length ≤ 100000) (h : ∀ tk, Q (!vs.isEmpty) { s with toks := tk }) : wpAny (model prog w) A (truthy (.ref l)) Q E s := by
  refine wpAny_truthy_list (isl N hm) (by rw [List.size_toArray]; omega) ?_
  have e : (!vs.toArray.isEmpty) = !vs.isEmpty := by cases vs <;> rfl
  rw [e]; exact h _
theorem len_L {Q : Value → Shared → Prop} (N : News h₀ L s.heap news) (hm : (l, W.listOf vs.toArray k) ∈ news) (hz : vs.length ≤ 100000) (h : ∀ t tk, Q (.int (vs.length : Int) t) { s with toks := tk }) : wpAny (model prog w) A (call (.builtin "len") [.ref l]) Q E s :=
  len_list (isl N hm) (by rw [List.size_toArray]; omega) (by have e : vs.toArray.size = vs.length := List.size_toArray ..
                                                             rw [e]; exact h _ _)
theorem item_L {value slice : PySem.Expr} {i : Int} {u : Tok} {v : Value} {Q : Value → Shared → Prop} (N : News h₀ L s.heap news) (hm : (l, W.listOf vs.toArray k) ∈ news) (h0 : 0 ≤ i) (hz : i ≤ 100000) (hx : vs[i.toNat]? = some v) (h : Q v s)
    (hs : subscripted slice false (.ref l) (.int i u) = operate [.ref l, .int i u] (getItem (.ref l) (.int i u)) := by with_unfolding_all rfl) :
    wpAny (model prog w) A (subscriptTail value slice (.ref l) (.int i u)) Q E s :=
  tail_any (isl N hm).typeIs slot_list_getitem.lookup (wpAny_getItem_list (isl N hm) h0 (by omega) (x := v) (by simpa using hx) h) hs
theorem Upd.new {d : Addr} {o o' : Obj} (U : Upd d o o' news news') : (d, o) ∈ news := by
  obtain ⟨pre, post, rfl, rfl, a, b⟩ := U.split
  exact List.mem_append.mpr (.inr (.head _))
theorem upd_at {d : Addr} {o o' : Obj} {h h' : Heap} (U : Upd d o o' news news') (F : Fr h₀ L h m) (N : News h₀ L h news) (hs : Heap.SameBut d h h') (ho : h'.get? d = some o') : Fr h₀ L h' m ∧ News h₀ L h' news' := by
  obtain ⟨pre, post, rfl, rfl, a, b⟩ := U.split
  have z := N (d, o) (List.mem_append.mpr (.inr (.head _)))
  exact ⟨F.change hs z.2.1 z.2.2, news_set N a b hs ho⟩
theorem pop0_L {v : Value} {t : Tok} {Q : Value → Shared → Prop} (F : Fr h₀ L s.heap m) (N : News h₀ L s.heap news) (U : Upd l (W.listOf (v :: vs).toArray k) (W.listOf vs.toArray (k + 1)) news news') (hz : vs.length ≤ 100000)
    (h : ∀ h', Fr h₀ L h' m → News h₀ L h' news' → Q v { s with heap := h' }) : wpAny (model prog w) A (call (.builtin "list.pop") [.ref l, .int 0 t]) Q E s := by
  have hm := (N _ (Upd.new U)).1
  refine call_meets PySem.F.slot_list_pop ⟨_, hm, rfl⟩ PySem.F.entry_list_pop (PySem.F.args_list_pop_2 _ _) (PySem.MeetsSeq.list_pop_at l (v :: vs).toArray k 0 t 0 v (by decide) (by unfold seqIndex?; simp) (by simp) (by rw [List.size_toArray, List.length_cons, sizeLine_eq]; omega)) ⟨hm, ?_⟩
  have e : Obj.mapSeq (fun xs => xs.eraseIdxIfInBounds 0) (W.listOf (v :: vs).toArray k) = W.listOf vs.toArray (k + 1) := by
    have e1 : (v :: vs).toArray.eraseIdxIfInBounds 0 = vs.toArray := by simp [Array.eraseIdxIfInBounds]
    show Obj.mk _ _ (.seq _ _) _ = _
    dsimp only
    have e2 : (((v :: vs).toArray.eraseIdxIfInBounds 0).size == (v :: vs).toArray.size) = false := by rw [e1]; simp
    rw [e2, e1]; rfl
  obtain ⟨F', N'⟩ := upd_at (h' := s.heap.update l (Obj.mapSeq fun xs => xs.eraseIdxIfInBounds 0)) U F N (Heap.SameBut.update ..) (by rw [Heap.get?_update_self _ hm (by rw [e]; rfl), e])
  exact h _ F' N'
theorem getMethod_list {nm : Str} {pl : Sem Bool} {Q : Value × List Value → Shared → Prop} (N : News h₀ L s.heap news) (hm : (l, W.listOf vs.toArray k) ∈ news) (hn : nm = "pop") (h : Q (.builtin "list.pop", [.ref l]) s) : wpAny (model prog w) A (getMethod (.ref l) nm pl) Q E s := by
  subst hn
  exact getMethod_pop_N N hm h rfl rfl
theorem mapSeq_to {f : Array Value → Array Value} {xs ys : List Value} {k : Nat} (h : f xs.toArray = ys.toArray) : ∃ k', Obj.mapSeq f (W.listOf xs.toArray k) = W.listOf ys.toArray k' :=
  ⟨if (f xs.toArray).size == xs.toArray.size then k else k + 1, by rw [← h]; rfl⟩
theorem setItem_all {l sl D : Addr} {xs ys : List Value} {k kd : Nat} {Q : Unit → Shared → Prop} (hl : s.heap.get? l = some (W.listOf xs.toArray k)) (hsl : s.heap.IsSliceOf sl .none .none .none) (hD : s.heap.get? D = some (W.listOf ys.toArray kd)) (hne : l ≠ D) (hz : xs.length ≤ 1000) (hz2 : ys.length ≤ 1000)
    (h : ∀ h' k', Heap.SameBut l s.heap h' → h'.get? l = some (W.listOf ys.toArray k') → Q () { s with heap := h' }) : wpAny (model prog w) A (setItem (.ref l) (.ref sl) (.ref D)) Q E s := by
  obtain ⟨os, hos, hcs, hds⟩ := id hsl
  have hTs : s.TypeIs (.ref sl) "slice" := ⟨os, hos, hcs⟩
  have hTl : s.TypeIs (.ref l) "list" := ⟨_, hl, rfl⟩
  have hTD : s.TypeIs (.ref D) "list" := ⟨_, hD, rfl⟩
  have hIl : s.heap.IsList l xs.toArray := ⟨_, hl, rfl, k, rfl⟩
  unfold setItem
  try with_reducible refine wpAny_holding ?_
  first | refine wpAny_bind (wpAny_pure ?_) | skip
  refine wpAny_bind (wpAny_sequenceKey hIl.typeIs (by decide) ?_)
  refine wpAny_bind (wpAny_callSpecial?_slot (name := Str.ofString "__setitem__") hIl.typeIs slot_list_setitem
    (wpAny_call_entry slot_list_setitem hIl.typeIs entry_list_setitem ?_ (args_list_setitem _ _ _)))
  show wpAny _ _ (Builtin.List.listSubscript? (.ref sl) >>= _) _ _ s
  refine wpAny_bind ?_
  unfold Builtin.List.listSubscript?
  refine wpAny_bind (wpAny_specialOf hTs slice_no_index ?_)
  simp only [Option.isNone_none, if_true]
  refine wpAny_pure ?_
  show wpAny _ _ (typeOf (.ref sl) >>= _) _ _ s
  refine wpAny_bind (wpAny_typeOf hTs ?_)
  rw [if_neg (by decide)]
  rw [listSliceParts_eq]
  refine wpAny_bind (wpAny_bind (wpAny_field hos hds (x := .none) rfl (wpAny_bind (wpAny_listPart .none ?_))))
  rw [if_neg (by exact Bool.false_ne_true)]
  refine wpAny_bind (wpAny_field hos hds (x := .none) rfl (wpAny_bind (wpAny_listPart .none ?_)))
  refine wpAny_bind (wpAny_field hos hds (x := .none) rfl (wpAny_bind (wpAny_listPart .none (wpAny_pure ?_))))
  have e0 : Builtin.List.listSameRef (.ref l) (.ref D) = false := by
    show (l == D) = false
    simpa using hne
  simp only [e0, Bool.false_eq_true, if_false]
  refine wpAny_bind ?_
  unfold Builtin.List.listAllItems
  refine wpAny_bind (wpAny_typeOf hTD ?_)
  rw [if_pos (by decide)]
  unfold Builtin.List.listItems
  refine wpAny_bind (wpAny_seqItems hD rfl (wpAny_pure ?_))
  refine wpAny_bind (wpAny_bind (wpAny_seqItems hl rfl (wpAny_pure ?_)))
  refine wpAny_bind (wpAny_of_eq (sliceIndices_raw none none none xs.toArray.size (by decide)) ?_)
  have hb : sliceBounds none none none xs.toArray.size = (0, (xs.toArray.size : Int), 1) := rfl
  rw [hb]
  dsimp only
  rw [if_pos (by decide)]
  refine wpAny_bind (wpAny_rule ?_)
  rw [if_neg (by unfold Builtin.List.listTooLong; rw [List.size_toArray, List.size_toArray, sizeLine_eq]; simp; omega)]
  have e1 : (xs.toArray.extract 0 (Int.toNat 0) ++ ys.toArray ++ xs.toArray.extract (max 0 (xs.toArray.size : Int)).toNat xs.toArray.size) = ys.toArray := by
    rw [show (max 0 (xs.toArray.size : Int)).toNat = xs.toArray.size by omega, show Int.toNat 0 = 0 from rfl]
    simp
  obtain ⟨k', e2⟩ := mapSeq_to (k := k) (f := fun zs => zs.extract 0 (Int.toNat 0) ++ ys.toArray ++ zs.extract (max 0 (xs.toArray.size : Int)).toNat zs.size) (xs := xs) (ys := ys) e1
  refine wpAny_bind (m := Builtin.List.listUpdate _ _) (wpAny_updateSeq hl rfl ?_ (by rw [List.size_toArray, sizeLine_eq]; omega) (by show (xs.toArray.extract 0 (Int.toNat 0) ++ ys.toArray ++ xs.toArray.extract (max 0 (xs.toArray.size : Int)).toNat xs.toArray.size).size ≤ _; rw [e1, List.size_toArray, sizeLine_eq]; omega))
  refine wpAny_bind (wpAny_letGo ?_)
  exact wpAny_pure ⟨_, rfl, wpAny_pure (h _ k' (Heap.SameBut.update ..) (by rw [Heap.get?_update_self _ hl (by rw [e2]; rfl), e2]))⟩
theorem setItem_all_K {H : Heap} {l D : Addr} {xs ys : List Value} {k kd : Nat} {Q : Unit → Shared → Prop} (F : Fr h₀ L H m) (N : News h₀ L H news) (hs : s.heap = H.push { cls := .type "slice", data := .fields #[.none, .none, .none] }) (ml : (l, W.listOf xs.toArray k) ∈ news) (mD : (D, W.listOf ys.toArray kd) ∈ news) (hne : l ≠ D) (hz : xs.length ≤ 1000) (hz2 : ys.length ≤ 1000)
    (h : ∀ h' k', ∃ news', UpdS [(l, W.listOf ys.toArray k')] news news' ∧ (Fr h₀ L h' m → News h₀ L h' news' → Q () { s with heap := h' })) : wpAny (model prog w) A (setItem (.ref l) (.ref H.objs.size) (.ref D)) Q E s := by
  have up : ∀ b o, H.get? b = some o → s.heap.get? b = some o := fun b o e => by rw [hs]; exact Heap.get?_push_of_some _ e
  refine setItem_all (up _ _ (N _ ml).1) (by rw [hs]; exact Heap.IsSliceOf.new ..) (up _ _ (N _ mD).1) hne hz hz2 fun h' k' hb hl' => ?_
  obtain ⟨news', u, q⟩ := h h' k'
  have z := N _ ml
  have F' : Fr h₀ L h' m := Fr.change (F.keeps up) hb z.2.1 z.2.2
  refine q F' (News.updS u (N.grown up) (fun b o e n => hb.extBut b o (fun q => n (by rw [q]; exact .head _)) e) (fun p hp => ?_))
  rw [List.mem_singleton.mp hp]
  exact ⟨hl', z.2⟩
end
end Mine
namespace Mine
section
variable {M : Model} {A : Around} {E : Value → Shared → Prop} {s : Shared} {K : Frag} {h₀ : Heap} {L x C f : Addr} {m : Str → Option Value} {ox : Obj} {od : Option Obj} {i : Value}
theorem delItem_own {Q : Unit → Shared → Prop} (F : Fr h₀ L s.heap m) (X₀ : K.In h₀) (I : PySem.W.InstAt s.heap x ox C od) (hq : noSeq K C = true) (hs : findIn K (.ref C) "__delitem__" = some (some (.ref f))) (hf : isFn K (.ref f) = true)
    (h : wpAny M A (call (.ref f) [.ref x, i]) (fun _ s' => Q () s') E s) : wpAny M A (delItem (.ref x) i) Q E s := by
  have X := X₀.keeps F.keep
  unfold delItem sequenceKey
  refine wpAny_holding (wpAny_bind (wpAny_bind (I.type.here ?_)))
  refine wpAny_bind ((anyM_none X hq).here ?_)
  rw [if_pos (show (!false) = true from rfl)]
  exact wpAny_pure (wpAny_bind (special_fn X I hs (beq_iff_eq.mp hf) (wpAny_mono h (fun _ _ z => wpAny_pure z) fun _ _ z => z)))
end
end Mine
namespace Mine
theorem ite_yes {c : Prop} [Decidable c] {P R : Prop} (h : c) (k : P) : if c then P else R := by rw [if_pos h]; exact k
theorem ite_no {c : Prop} [Decidable c] {P R : Prop} (h : ¬ c) (k : R) : if c then P else R := by rw [if_neg h]; exact k
theorem ite_noB {b : Bool} {P R : Prop} (h : b = false) (k : R) : if b = true then P else R := by rw [h, if_neg (by decide)]; exact k
end Mine
namespace Mine
inductive StrsAre : List Value → List Str → Prop where
  | nil : StrsAre [] []
  | cons {x : Str} {t : Tok} {vs : List Value} {xs : List Str} : StrsAre vs xs → StrsAre (.str x t :: vs) (x :: xs)
theorem StrsAre.length {vs : List Value} {xs : List Str} (h : StrsAre vs xs) : vs.length = xs.length := by
  induction h with
  | nil => rfl
  | cons _ ih => rw [List.length_cons, List.length_cons, ih]
theorem StrsAre.snoc {vs : List Value} {xs : List Str} {x : Str} {t : Tok} (h : StrsAre vs xs) : StrsAre (vs ++ [.str x t]) (xs ++ [x]) := by
  induction h with
  | nil => exact .cons .nil
  | cons _ ih => exact .cons ih
theorem StrsAre.append {vs us : List Value} {xs ys : List Str} (h : StrsAre vs xs) (k : StrsAre us ys) : StrsAre (vs ++ us) (xs ++ ys) := by
  induction h with
  | nil => exact k
  | cons _ ih => exact .cons ih
theorem StrsAre.get {vs : List Value} {xs : List Str} (h : StrsAre vs xs) : ∀ {i : Nat} {v : Value}, vs[i]? = some v → ∃ x t, v = .str x t ∧ xs[i]? = some x := by
  induction h with
  | nil => intro i v h; simp at h
  | cons _ ih =>
    intro i v h
    cases i with
    | zero => simp at h; exact ⟨_, _, h.symm, rfl⟩
    | succ i => exact ih (by simpa using h)
theorem StrsAre.toP {vs : List Value} {xs : List Str} (h : StrsAre vs xs) : PyProof.Rows.StrsAre vs xs := by
  induction h with
  | nil => exact .nil
  | cons _ ih => exact .cons _ _ ih
theorem StrsAre.ofP {vs : List Value} {xs : List Str} (h : PyProof.Rows.StrsAre vs xs) : StrsAre vs xs := by
  induction h with
  | nil => exact .nil
  | cons _ _ _ ih => exact .cons ih
section
variable {prog : Program} {w : World} {A : Around} {E : Value → Shared → Prop} {s : Shared} {h₀ : Heap} {L : Addr} {m : Str → Option Value} {news : List (Addr × Obj)}
theorem add_LL {l b : Addr} {vs us : List Value} {k k2 : Nat} {Q : Value → Shared → Prop} (F : Fr h₀ L s.heap m) (N : News h₀ L s.heap news) (m1 : (l, W.listOf vs.toArray k) ∈ news) (m2 : (b, W.listOf us.toArray k2) ∈ news) (hz : vs.length + us.length ≤ 100000)
    (h : ∀ D h', Fr h₀ L h' m → News h₀ L h' ((D, W.listOf (vs ++ us).toArray 0) :: news) → (∀ p ∈ news, p.1 < D) → Q (.ref D) { s with heap := h' }) : wpAny (model prog w) A (binaryOp .Add (.ref l) (.ref b)) Q E s :=
  add_lists F N (isl N m1) (isl N m2) (fun h' F' N' => h _ h' F' N' fun p hp => Heap.lt_size (N p hp).1) (by rw [sizeLine_eq]; omega)
theorem sorted_LL {l : Addr} {vs : List Value} {ss : List Str} {k : Nat} {Q : Value → Shared → Prop} (F : Fr h₀ L s.heap m) (N : News h₀ L s.heap news) (m1 : (l, W.listOf vs.toArray k) ∈ news) (hs : StrsAre vs ss) (hz : vs.length < 64)
    (h : ∀ D h' vs' ss' e, Fr h₀ L h' m → News h₀ L h' ((D, W.listOf vs'.toArray e) :: news) → (∀ p ∈ news, p.1 < D) → StrsAre vs' ss' → ss'.Perm ss → sortedS ss' = true → Q (.ref D) { s with heap := h' }) : wpAny (model prog w) A (call (.builtin "sorted") [.ref l]) Q E s :=
  sorted_N_str F N (isl N m1) hs.toP hz fun h' vs' ss' e F' N' S' P' O' => h _ h' vs' ss' e F' N' (fun p hp => Nat.lt_succ_of_lt (Heap.lt_size (N p hp).1)) (.ofP S') P' O'
theorem StrsAre.vals {vs : List Value} {ss : List Str} (h : StrsAre vs ss) : ∃ l : List (Str × Tok), strValues l = vs ∧ l.map (·.1) = ss := by
  induction h with
  | nil => exact ⟨[], rfl, rfl⟩
  | @cons x t vs xs _ ih =>
    obtain ⟨l, rfl, rfl⟩ := ih
    exact ⟨(x, t) :: l, rfl, rfl⟩
theorem join_L {D : Addr} {vs : List Value} {ss : List Str} {k : Nat} {x : Str} {t : Tok} {Q : Value → Shared → Prop} (N : News h₀ L s.heap news) (hm : (D, W.listOf vs.toArray k) ∈ news) (hs : StrsAre vs ss) (hz : (ss.map (·.length)).sum + ss.length * x.length ≤ 100000)
    (h : ∀ t' tk, Q (.str (Txt.join x ss) t') { s with toks := tk }) : wpAny (model prog w) A (call (.builtin "str.join") [.str x t, .ref D]) Q E s := by
  obtain ⟨l, rfl, e⟩ := hs.vals
  exact SC.join (isl N hm) e (joinOk_of (by omega)) h
theorem join_flat : ∀ (l : List (List Nat)), Txt.join "" (l.map fun x => (⟨x.toArray⟩ : Str)) = ⟨l.flatten.toArray⟩
  | [] => rfl
  | [x] => by rw [List.flatten_cons, List.flatten_nil, List.append_nil]; rfl
  | x :: y :: r => by
    have h := join_flat (y :: r)
    have e : Txt.join "" ((x :: y :: r).map fun x => (⟨x.toArray⟩ : Str)) = (⟨x.toArray⟩ : Str) ++ "" ++ Txt.join "" ((y :: r).map fun x => (⟨x.toArray⟩ : Str)) := (StrLaws.glued_eq_join _ _).trans (congrArg _ (StrLaws.glued_eq_join _ _).symm)
    rw [e, h]
    refine Str.ext' ?_
    rw [Str.cps_append, Str.cps_append, List.flatten_cons]
    show x.toArray ++ #[] ++ _ = _
    rw [Array.append_empty, List.append_toArray]; rfl
end
end Mine

-- COMPREHENSIONS BY AN INVARIANT
namespace Mine
open PyProof.Rows.LCg
inductive CmpEnd (h₀ : Heap) (L : Addr) (m : Str → Option Value) (s₁ : Shared) (I : Addr) (oI : Obj) (C : Addr) (oC : Obj) (D : Addr) (oD : Obj) (rest : Value → List (Addr × Obj) → Prop) (y : Value) (s₂ : Shared) : Prop where
  | mk h' tk news' (h0 : s₂ = { s₁ with heap := h', toks := tk }) (h1 : Fr h₀ L h' m) (h2 : News h₀ L h' ((I, oI) :: (C, oC) :: (D, oD) :: news')) (h3 : (∀ p ∈ news', p.1 ≠ I ∧ p.1 ≠ C ∧ p.1 ≠ D)) (h4 : rest y news') : CmpEnd h₀ L m s₁ I oI C oC D oD rest y s₂
theorem CmpEnd.intro {h₀ : Heap} {L I C D : Addr} {m : Str → Option Value} {s₁ : Shared} {oI oC oD : Obj} {rest : Value → List (Addr × Obj) → Prop} {y : Value} {h' : Heap} {tk : Nat} {all : List (Addr × Obj)} (news' : List (Addr × Obj))
    (F : Fr h₀ L h' m) (N : News h₀ L h' all) (sub : ∀ p ∈ (I, oI) :: (C, oC) :: (D, oD) :: news', p ∈ all) (off : ∀ p ∈ news', p.1 ≠ I ∧ p.1 ≠ C ∧ p.1 ≠ D) (r : rest y news') :
    CmpEnd h₀ L m s₁ I oI C oC D oD rest y { s₁ with heap := h', toks := tk } := ⟨h', tk, news', rfl, F, fun p hp => N p (sub p hp), off, r⟩
theorem CmpEnd.to {h₀ : Heap} {L I C D : Addr} {m : Str → Option Value} {s₁ s₂ : Shared} {oI oC oD : Obj} {rest rest' : Value → List (Addr × Obj) → Prop} {S : List (Addr × Obj) → Prop} {y : Value}
    (h : CmpEnd h₀ L m s₁ I oI C oC D oD rest y s₂) (k : ∀ nw, rest y nw → S nw ∧ rest' y nw) : CompEnd h₀ L m s₁ I oI C oC D oD S rest' y s₂ := by
  obtain ⟨h', tk, nw, rfl, F, N, off, r⟩ := h
  exact ⟨h', tk, nw, rfl, F, N, Off3.of off, (k _ r).1, (k _ r).2⟩
section
variable {prog : Program} {w : World} {A : Around} {E : Value → Shared → Prop} {s : Shared} {h₀ : Heap} {L : Addr} {m : Str → Option Value} {env : Env}
theorem restU {elt : PySem.Expr} {x : Str} {scope : Scope} {cl : List (Str × Addr)} {S : List (Addr × Obj) → Prop} {P : Nat → Value → Prop} {Fin : List Value → List (Addr × Obj) → Prop} {n : Nat} (J : Nat → List Value → List (Addr × Obj) → Prop)
    (hS : ∀ i ys nw, J i ys nw → S nw) (fin : ∀ ys nw, J n ys nw → Fin ys nw)
    (step : ∀ i ys nw v I oI C oC D m₂ h tk (E' : Value → Shared → Prop), i < n → J i ys nw → P i v → NsObj oC m₂ → m₂ x = some v → Fr h₀ L h m → News h₀ L h ((I, oI) :: (C, oC) :: (D, lst ys) :: nw) → (∀ p ∈ nw, p.1 ≠ I ∧ p.1 ≠ C ∧ p.1 ≠ D) → ((@Ne Nat I C) ∧ (@Ne Nat I D) ∧ (@Ne Nat C D)) →
      wpAny (model prog w) A (eval elt (compEnvC scope cl C env)) (CmpEnd h₀ L m { s with heap := h, toks := tk } I oI C oC D (lst ys) (fun y nw' => J (i + 1) (ys ++ [y]) nw')) E' { s with heap := h, toks := tk }) :
    ∀ k i ys nw, i + k = n → J i ys nw → CompRest prog w A h₀ L m env elt x scope cl s S P Fin k i ys nw
  | 0, i, ys, nw, e, hj => CompRest.zero (fin ys nw (by rw [Nat.add_zero] at e; exact e ▸ hj))
  | k + 1, i, ys, nw, e, hj => CompRest.succ fun v I oI C oC D m₂ h tk E' hv hC hx F N off ne =>
    wpAny_mono (step i ys nw v I oI C oC D m₂ h tk E' (by omega) hj hv hC hx F N off.mem ne) (fun y s₂ q => q.to fun nw' r => ⟨hS _ _ _ r, restU J hS fin step k (i + 1) _ _ (by omega) r⟩) fun _ _ e => e
theorem restT {ct elt : PySem.Expr} {x : Str} {scope : Scope} {cl : List (Str × Addr)} {S : List (Addr × Obj) → Prop} {P : Nat → Value → Prop} {Fin : List Value → List (Addr × Obj) → Prop} {n : Nat} (J : Nat → List Value → List (Addr × Obj) → Prop)
    (hS : ∀ i ys nw, J i ys nw → S nw) (fin : ∀ ys nw, J n ys nw → Fin ys nw)
    (step : ∀ i ys nw v I oI C oC D m₂ h tk (E' : Value → Shared → Prop), i < n → J i ys nw → P i v → NsObj oC m₂ → m₂ x = some v → Fr h₀ L h m → News h₀ L h ((I, oI) :: (C, oC) :: (D, lst ys) :: nw) → (∀ p ∈ nw, p.1 ≠ I ∧ p.1 ≠ C ∧ p.1 ≠ D) → ((@Ne Nat I C) ∧ (@Ne Nat I D) ∧ (@Ne Nat C D)) →
      wpAny (model prog w) A (isTrue ct (compEnvC scope cl C env) (eval ct (compEnvC scope cl C env))) (fun ok s' => if ok = true then
        wpAny (model prog w) A (eval elt (compEnvC scope cl C env)) (CmpEnd h₀ L m { s with heap := h, toks := tk } I oI C oC D (lst ys) (fun y nw' => J (i + 1) (ys ++ [y]) nw')) E' s'
        else CmpEnd h₀ L m { s with heap := h, toks := tk } I oI C oC D (lst ys) (fun _ nw' => J (i + 1) ys nw') Value.none s') E' { s with heap := h, toks := tk }) :
    ∀ k i ys nw, i + k = n → J i ys nw → LCt.CompRestT prog w A h₀ L m env ct elt x scope cl s S P Fin k i ys nw
  | 0, i, ys, nw, e, hj => LCt.CompRestT.zero (fin ys nw (by rw [Nat.add_zero] at e; exact e ▸ hj))
  | k + 1, i, ys, nw, e, hj => LCt.CompRestT.succ fun v I oI C oC D m₂ h tk E' hv hC hx F N off ne =>
    wpAny_mono (step i ys nw v I oI C oC D m₂ h tk E' (by omega) hj hv hC hx F N off.mem ne) (fun ok s₂ q => by
      cases ok with
      | true =>
        simp only [if_true] at q ⊢
        exact wpAny_mono q (fun y s₂ q => q.to fun nw' r => ⟨hS _ _ _ r, restT J hS fin step k (i + 1) _ _ (by omega) r⟩) fun _ _ e => e
      | false =>
        simp only [Bool.false_eq_true, if_false] at q ⊢
        exact q.to fun nw' r => ⟨hS _ _ _ r, restT J hS fin step k (i + 1) _ _ (by omega) r⟩) fun _ _ e => e
theorem restP {elt : PySem.Expr} {x x₂ : Str} {scope : Scope} {cl : List (Str × Addr)} {S : List (Addr × Obj) → Prop} {P : Nat → Value → Prop} {Fin : List Value → List (Addr × Obj) → Prop} {n : Nat} (J : Nat → List Value → List (Addr × Obj) → Prop)
    (hS : ∀ i ys nw, J i ys nw → S nw) (fin : ∀ ys nw, J n ys nw → Fin ys nw)
    (pair : ∀ i ys nw v, i < n → J i ys nw → P i v → ∃ (t : Addr) (v₁ v₂ : Value), v = .ref t ∧ (t, ({ cls := .type "tuple", data := .seq #[v₁, v₂] } : Obj)) ∈ nw ∧
      ∀ I oI C oC D m₂ h tk (E' : Value → Shared → Prop), NsObj oC m₂ → m₂ x = some v₁ → m₂ x₂ = some v₂ → Fr h₀ L h m → News h₀ L h ((I, oI) :: (C, oC) :: (D, lst ys) :: nw) → (∀ p ∈ nw, p.1 ≠ I ∧ p.1 ≠ C ∧ p.1 ≠ D) → ((@Ne Nat I C) ∧ (@Ne Nat I D) ∧ (@Ne Nat C D)) →
      wpAny (model prog w) A (eval elt (compEnvC scope cl C env)) (CmpEnd h₀ L m { s with heap := h, toks := tk } I oI C oC D (lst ys) (fun y nw' => J (i + 1) (ys ++ [y]) nw')) E' { s with heap := h, toks := tk }) :
    ∀ k i ys nw, i + k = n → J i ys nw → LCp.CompRestP prog w A h₀ L m env elt x x₂ scope cl s S P Fin k i ys nw
  | 0, i, ys, nw, e, hj => LCp.CompRestP.zero (fin ys nw (by rw [Nat.add_zero] at e; exact e ▸ hj))
  | k + 1, i, ys, nw, e, hj => LCp.CompRestP.succ fun v hv => by
    obtain ⟨t, v₁, v₂, rfl, hm, st⟩ := pair i ys nw v (by omega) hj hv
    exact ⟨t, _, v₁, v₂, 0, rfl, hm, rfl, rfl, fun I oI C oC D m₂ h tk E' hC hx hx2 F N off ne =>
      wpAny_mono (st I oI C oC D m₂ h tk E' hC hx hx2 F N off.mem ne) (fun y s₂ q => q.to fun nw' r => ⟨hS _ _ _ r, restP J hS fin pair k (i + 1) _ _ (by omega) r⟩) fun _ _ e => e⟩
-- over a text, sign by sign
theorem str_st {I : Addr} {cn : String} {xt : Str} {tx : Tok} : ∀ i (h h' : Heap) (o : Obj) (nw : List (Addr × Obj)), h.IsStrIter I cn xt tx i → h.get? I = some o → h'.get? I = some o → (∀ b o, h₀.get? b = some o → h'.get? b = some o) → News h₀ L h' nw → True → h'.IsStrIter I cn xt tx i :=
  fun i h h' o nw st e e' _ _ _ => by obtain ⟨o', q, r⟩ := st; rw [e] at q; cases q; exact ⟨o, e', r⟩
theorem comp_str {elt iter : PySem.Expr} {x : Str} {px : Pos} {scope : Scope} {cl : List (Str × Addr)} {pos : Pos} {Q : Value → Shared → Prop}
    (hclos : closureFor scope env = pure cl) (hcell : ∀ y ∈ scope.names, y.2 ≠ .cell) (hkind : scope.kind = .function)
    (hnames : ∀ y ∈ scope.names, y.2 = .local → scope.names.lookup y.1 = some .local) (hx : scope.names.lookup x = some .local)
    (h : wpAny (model prog w) A (eval iter env) (fun xv s₁ => ∃ xt tx news, xv = .str xt tx ∧ A.handled = none ∧ Fr h₀ L s₁.heap m ∧ News h₀ L s₁.heap news ∧ xt.length ≤ sizeLine ∧
      ∀ g, CompRest prog w A h₀ L m env elt x scope cl { s₁ with heap := g } (fun _ => True) (SignAt xt) (FinE h₀ L m { s₁ with heap := g } Q) xt.cps.size 0 [] news) E s)
    (hs : ∀ x, foldedSetIterable iter env x = pure x := by intro _; rfl) :
    wpAny (model prog w) A (eval (.ListComp elt [⟨.Name x px, iter, [], 0⟩] scope pos) env) Q E s := by
  rw [eval_ListComp]
  refine wpAny_comprehension_free (use := none) rfl hs hclos hkind hnames (wpAny_mono h (fun xv s₁ h₁ => ?_) fun _ _ e => e)
  obtain ⟨xt, tx, news, rfl, hh, F, N, hsz, R⟩ := h₁
  have go : ∀ (o : Obj) (cn : String) (ho : o.isFreed = false), (∀ A' : Around, A'.handled = none → Walks prog w A' s₁.heap.objs.size [s₁.heap.objs.size] [s₁.heap.objs.size] xt.cps.size (SignAt xt) (fun i h => h.IsStrIter s₁.heap.objs.size cn xt tx i)) → (s₁.heap.push o).IsStrIter s₁.heap.objs.size cn xt tx 0 →
      wpAny (model prog w) A (newList []) (fun acc s₃ => wpAny (model prog w) A (newFunctionEnv scope env.globals cl [] env.qual none .none (some env)) (fun cenv s₄ =>
        codeAny (model prog w) A (.compStart (.ListComp elt [⟨.Name x px, iter, [], 0⟩] scope pos) 0 (.ref s₁.heap.objs.size) acc { cenv with scope := relabel scope env }) (compPost (model prog w) A E none Q acc cenv.locals) s₄) E s₃) E { s₁ with heap := s₁.heap.push o } := by
    intro o cn ho hW hst
    refine block_U (hW A hh) hsz (fun i h st => by obtain ⟨o, e, _⟩ := st; exact ⟨o, e⟩) str_st hcell hkind hx hst (fun b hb => ?_)
      (F.push _) (N.grown fun _ _ e => Heap.get?_push_of_some _ e) (Nat.ne_of_lt F.ns.lt) (next_is_new F) (fun p hp => Nat.ne_of_lt (Heap.lt_size (N p hp).1)) trivial (R _) ?_
    · rw [List.mem_singleton.mp hb]
      show s₁.heap.objs.size < (s₁.heap.push _).objs.size
      rw [Heap.size_push]; exact Nat.lt_succ_self _
    · intro D C h tk m' ys news' F' N' o1 hn hC₀ hD₀ hCL hDL hCD offC fin
      refine ⟨m', hn, fun h'' hs'' => fin D h'' tk (F'.change hs'' hCL hC₀) (fun p hp => ?_) o1⟩
      refine ⟨hs''.extBut _ _ ?_ (N' p hp).1, (N' p hp).2⟩
      rcases List.mem_cons.mp hp with rfl | hp
      · exact Ne.symm hCD
      · exact offC p hp
  cases ha : xt.cps.all (· < 128)
  · exact wpAny_pyIter_wide ha (go _ _ rfl (fun A' hA => Walks.strWide hA _ xt tx) ⟨_, Heap.get?_push_size _ rfl, rfl, rfl⟩)
  · exact wpAny_pyIter_ascii ha (go _ _ rfl (fun A' hA => Walks.strAscii hA _ xt tx) ⟨_, Heap.get?_push_size _ rfl, rfl, rfl⟩)
theorem off1_mem {D : Addr} : ∀ {l : List (Addr × Obj)}, Off1 D l → ∀ p ∈ l, p.1 ≠ D
  | [], _, _, h => nomatch h
  | _ :: _, x, p, h => by
    rcases List.mem_cons.mp h with rfl | h
    · exact x.1
    · exact off1_mem x.2 p h
theorem fresh_ne {h₁ g h' : Heap} {L L' D : Addr} {o : Obj} {known news out : List (Addr × Obj)} (N₁ : News h₀ L h₁ news) (hgk : Mine.Keeps (known.map (·.1)) h₁ g) (N' : News g L' h' out) (hD : (D, o) ∈ out) (hk : ∀ p ∈ known, p.1 ≠ D) : ∀ p ∈ news, p.1 ≠ D := fun p hp e => by
  by_cases q : p.1 ∈ known.map (·.1)
  · obtain ⟨r, hr, e'⟩ := List.mem_map.mp q
    exact hk r hr (e'.trans e)
  · have := hgk _ _ (N₁ p hp).1 q
    rw [e, (N' _ hD).2.2] at this; cases this
-- over a list of the ledger, the ledger as it was behind each turn
theorem srcT_L {ct elt : PySem.Expr} {x : Str} {scope : Scope} {cl : List (Str × Addr)} {Fin : Shared → List Value → List (Addr × Obj) → Prop} {ax : Addr} {vs : List Value} {k : Nat} {news : List (Addr × Obj)} {s₁ : Shared} (Jf : List (Addr × Obj) → Nat → List Value → Prop)
    (hh : A.handled = none) (F : Fr h₀ L s₁.heap m) (N : News h₀ L s₁.heap news) (hm : (ax, W.listOf vs.toArray k) ∈ news) (hsz : vs.length ≤ 1000) (hj : Jf news 0 [])
    (step : ∀ i ys v I oI C oC D m₂ h tk (E' : Value → Shared → Prop), vs[i]? = some v → Jf news i ys → NsObj oC m₂ → m₂ x = some v → Fr h₀ L h m → News h₀ L h ((I, oI) :: (C, oC) :: (D, lst ys) :: news) → (∀ p ∈ news, p.1 ≠ I ∧ p.1 ≠ C ∧ p.1 ≠ D) → ((@Ne Nat I C) ∧ (@Ne Nat I D) ∧ (@Ne Nat C D)) →
      wpAny (model prog w) A (isTrue ct (compEnvC scope cl C env) (eval ct (compEnvC scope cl C env))) (fun ok s' => if ok = true then
        wpAny (model prog w) A (eval elt (compEnvC scope cl C env)) (CmpEnd h₀ L m { s₁ with heap := h, toks := tk } I oI C oC D (lst ys) (fun y nw' => nw' = news ∧ Jf news (i + 1) (ys ++ [y]))) E' s'
        else CmpEnd h₀ L m { s₁ with heap := h, toks := tk } I oI C oC D (lst ys) (fun _ nw' => nw' = news ∧ Jf news (i + 1) ys) Value.none s') E' { s₁ with heap := h, toks := tk })
    (fin : ∀ g ys, Jf news vs.length ys → Fin { s₁ with heap := g } ys news) : LCt.CompSrcT prog w A h₀ L m env ct elt x scope cl Fin (.ref ax) s₁ :=
  LCt.CompSrcT.ledger hh F N hm (by rw [List.size_toArray, sizeLine_eq]; omega) fun g => restT (n := vs.toArray.size) (fun i ys nw => nw = news ∧ Jf news i ys) (fun i ys nw h => h.1 ▸ .inr ⟨_, hm, rfl, k, rfl⟩)
    (fun ys nw h => h.1 ▸ fin g ys (List.size_toArray .. ▸ h.2)) (fun i ys nw v I oI C oC D m₂ h tk E' hi hJ hv hC hx F N2 off ne => by
      obtain ⟨rfl, hJ⟩ := hJ
      exact step i ys v I oI C oC D m₂ h tk E' (by simpa using hv) hJ hC hx F N2 off ne) _ 0 [] news (Nat.zero_add _) ⟨rfl, hj⟩
theorem srcU_L {elt : PySem.Expr} {x : Str} {scope : Scope} {cl : List (Str × Addr)} {Fin : Shared → List Value → List (Addr × Obj) → Prop} {ax : Addr} {vs : List Value} {k : Nat} {news : List (Addr × Obj)} {s₁ : Shared} (Jf : List (Addr × Obj) → Nat → List Value → Prop)
    (hh : A.handled = none) (F : Fr h₀ L s₁.heap m) (N : News h₀ L s₁.heap news) (hm : (ax, W.listOf vs.toArray k) ∈ news) (hsz : vs.length ≤ 1000) (hj : Jf news 0 [])
    (step : ∀ i ys v I oI C oC D m₂ h tk (E' : Value → Shared → Prop), vs[i]? = some v → Jf news i ys → NsObj oC m₂ → m₂ x = some v → Fr h₀ L h m → News h₀ L h ((I, oI) :: (C, oC) :: (D, lst ys) :: news) → (∀ p ∈ news, p.1 ≠ I ∧ p.1 ≠ C ∧ p.1 ≠ D) → ((@Ne Nat I C) ∧ (@Ne Nat I D) ∧ (@Ne Nat C D)) →
      wpAny (model prog w) A (eval elt (compEnvC scope cl C env)) (CmpEnd h₀ L m { s₁ with heap := h, toks := tk } I oI C oC D (lst ys) (fun y nw' => nw' = news ∧ Jf news (i + 1) (ys ++ [y]))) E' { s₁ with heap := h, toks := tk })
    (fin : ∀ g ys, Jf news vs.length ys → Fin { s₁ with heap := g } ys news) : CompSrc prog w A h₀ L m env elt x scope cl Fin (.ref ax) s₁ :=
  CompSrc.ledger hh F N hm (by rw [List.size_toArray, sizeLine_eq]; omega) fun g => restU (n := vs.toArray.size) (fun i ys nw => nw = news ∧ Jf news i ys) (fun i ys nw h => h.1 ▸ .inr ⟨_, hm, rfl, k, rfl⟩)
    (fun ys nw h => h.1 ▸ fin g ys (List.size_toArray .. ▸ h.2)) (fun i ys nw v I oI C oC D m₂ h tk E' hi hJ hv hC hx F N2 off ne => by
      obtain ⟨rfl, hJ⟩ := hJ
      exact step i ys v I oI C oC D m₂ h tk E' (by simpa using hv) hJ hC hx F N2 off ne) _ 0 [] news (Nat.zero_add _) ⟨rfl, hj⟩
theorem srcP_L {elt : PySem.Expr} {x x₂ : Str} {scope : Scope} {cl : List (Str × Addr)} {Fin : Shared → List Value → List (Addr × Obj) → Prop} {ax : Addr} {vs : List Value} {k : Nat} {news : List (Addr × Obj)} {s₁ : Shared} (Jf : List (Addr × Obj) → Nat → List Value → Prop)
    (hh : A.handled = none) (F : Fr h₀ L s₁.heap m) (N : News h₀ L s₁.heap news) (hm : (ax, W.listOf vs.toArray k) ∈ news) (hsz : vs.length ≤ 1000) (hj : Jf news 0 [])
    (pair : ∀ i v, vs[i]? = some v → ∃ (t : Addr) (v₁ v₂ : Value), v = .ref t ∧ (t, ({ cls := .type "tuple", data := .seq #[v₁, v₂] } : Obj)) ∈ news ∧
      ∀ ys I oI C oC D m₂ h tk (E' : Value → Shared → Prop), Jf news i ys → NsObj oC m₂ → m₂ x = some v₁ → m₂ x₂ = some v₂ → Fr h₀ L h m → News h₀ L h ((I, oI) :: (C, oC) :: (D, lst ys) :: news) → (∀ p ∈ news, p.1 ≠ I ∧ p.1 ≠ C ∧ p.1 ≠ D) → ((@Ne Nat I C) ∧ (@Ne Nat I D) ∧ (@Ne Nat C D)) →
      wpAny (model prog w) A (eval elt (compEnvC scope cl C env)) (CmpEnd h₀ L m { s₁ with heap := h, toks := tk } I oI C oC D (lst ys) (fun y nw' => nw' = news ∧ Jf news (i + 1) (ys ++ [y]))) E' { s₁ with heap := h, toks := tk })
    (fin : ∀ g ys, Jf news vs.length ys → Fin { s₁ with heap := g } ys news) : LCp.SrcLP prog w A h₀ L m env elt x x₂ scope cl Fin (.ref ax) s₁ :=
  LCp.SrcLP.ledger hh F N hm (by rw [List.size_toArray, sizeLine_eq]; omega) fun g => restP (n := vs.toArray.size) (fun i ys nw => nw = news ∧ Jf news i ys) (fun i ys nw h => h.1 ▸ .inr ⟨_, hm, rfl, k, rfl⟩)
    (fun ys nw h => h.1 ▸ fin g ys (List.size_toArray .. ▸ h.2)) (fun i ys nw v hi hJ hv => by
      obtain ⟨rfl, hJ⟩ := hJ
      obtain ⟨t, v₁, v₂, e, hm', st⟩ := pair i v (by simpa using hv)
      exact ⟨t, v₁, v₂, e, hm', fun I oI C oC D m₂ h tk E' => st ys I oI C oC D m₂ h tk E' hJ⟩) _ 0 [] news (Nat.zero_add _) ⟨rfl, hj⟩
inductive StrSrc (prog : Program) (w : World) (A : Around) (h₀ : Heap) (L : Addr) (m : Str → Option Value) (env : Env) (elt : PySem.Expr) (x : Str) (scope : Scope) (cl : List (Str × Addr)) (Q : Value → Shared → Prop) (xv : Value) (s₁ : Shared) : Prop where
  | mk xt tx news (h0 : xv = .str xt tx) (h1 : A.handled = none) (h2 : Fr h₀ L s₁.heap m) (h3 : News h₀ L s₁.heap news) (h4 : xt.length ≤ sizeLine) (h5 : ∀ g, CompRest prog w A h₀ L m env elt x scope cl { s₁ with heap := g } (fun _ => True) (SignAt xt) (FinE h₀ L m { s₁ with heap := g } Q) xt.cps.size 0 [] news) : StrSrc prog w A h₀ L m env elt x scope cl Q xv s₁
theorem comp_strD {elt iter : PySem.Expr} {x : Str} {px : Pos} {scope : Scope} {cl : List (Str × Addr)} {pos : Pos} {Q : Value → Shared → Prop} (F : Fr h₀ L s.heap m)
    (hclos : closureFor scope env = pure cl) (hcell : ∀ y ∈ scope.names, y.2 ≠ .cell) (hkind : scope.kind = .function)
    (hnames : ∀ y ∈ scope.names, y.2 = .local → scope.names.lookup y.1 = some .local) (hx : scope.names.lookup x = some .local)
    (h : wpAny (model prog w) A (eval iter env) (StrSrc prog w A h₀ L m env elt x scope cl Q) E s) (hs : ∀ x, foldedSetIterable iter env x = pure x := by intro _; rfl) :
    wpAny (model prog w) A (eval (.ListComp elt [⟨.Name x px, iter, [], 0⟩] scope pos) env) Q E s :=
  comp_str hclos hcell hkind hnames hx (wpAny_mono h (fun _ _ ⟨xt, tx, news, h0, h1, h2, h3, h4, h5⟩ => ⟨xt, tx, news, h0, h1, h2, h3, h4, h5⟩) fun _ _ e => e) hs
theorem srcS_L {elt : PySem.Expr} {x : Str} {scope : Scope} {cl : List (Str × Addr)} {Q : Value → Shared → Prop} {xt : Str} {tx : Tok} {news : List (Addr × Obj)} {s₁ : Shared} (Jf : Nat → List Value → Prop)
    (hh : A.handled = none) (F : Fr h₀ L s₁.heap m) (N : News h₀ L s₁.heap news) (hsz : xt.length ≤ 1000) (hj : Jf 0 [])
    (step : ∀ i ys c u I oI C oC D m₂ h tk (E' : Value → Shared → Prop), xt.cps[i]? = some c → Jf i ys → NsObj oC m₂ → m₂ x = some (.str ⟨#[c]⟩ u) → Fr h₀ L h m → News h₀ L h ((I, oI) :: (C, oC) :: (D, lst ys) :: news) → (∀ p ∈ news, p.1 ≠ I ∧ p.1 ≠ C ∧ p.1 ≠ D) → ((@Ne Nat I C) ∧ (@Ne Nat I D) ∧ (@Ne Nat C D)) →
      wpAny (model prog w) A (eval elt (compEnvC scope cl C env)) (CmpEnd h₀ L m { s₁ with heap := h, toks := tk } I oI C oC D (lst ys) (fun y nw' => nw' = news ∧ Jf (i + 1) (ys ++ [y]))) E' { s₁ with heap := h, toks := tk })
    (fin : ∀ g ys, Jf xt.cps.size ys → FinE h₀ L m { s₁ with heap := g } Q ys news) : StrSrc prog w A h₀ L m env elt x scope cl Q (.str xt tx) s₁ :=
  ⟨xt, tx, news, rfl, hh, F, N, by rw [sizeLine_eq]; omega, fun g => restU (n := xt.cps.size) (fun i ys nw => nw = news ∧ Jf i ys) (fun _ _ _ _ => trivial)
    (fun ys nw h => h.1 ▸ fin g ys h.2) (fun i ys nw v I oI C oC D m₂ h tk E' hi hJ hv hC hx F N2 off ne => by
      obtain ⟨rfl, hJ⟩ := hJ
      obtain ⟨c, u, hc, rfl⟩ := hv
      exact step i ys c u I oI C oC D m₂ h tk E' hc hJ hC hx F N2 off ne) _ 0 [] news (Nat.zero_add _) ⟨rfl, hj⟩⟩
end
end Mine

-- A COMPREHENSION OVER PAIRS WHOSE FIRST NAME IS A CELL (an inner comprehension reads it)
namespace Mine
open PySem.Calls PyProof.Rows.LCg PyProof.Rows.LCp
section
variable {M : Model} {A : Around} {E : Value → Shared → Prop} {s : Shared}
theorem newEnv_cell {scope : Scope} {globals : Addr} {qual : Str} {env : Env} {x : Str} {Q : Env → Shared → Prop} (hcs : ∀ n : Nat, cellsFrom n scope.names [] = [(x, n)])
    (h : ∀ h', (∀ b o, s.heap.get? b = some o → h'.get? b = some o) → h'.get? s.heap.objs.size = some { cls := .type "dict", data := .dict #[] } → h'.IsCell (s.heap.objs.size + 1) none →
      Q { scope, locals := s.heap.objs.size, globals, cells := [(x, s.heap.objs.size + 1)], qual, func := none, code := env.code, frame := env.frame, builtins := env.builtins } { s with heap := h' }) :
    wpAny M A (newFunctionEnv scope globals [] [] qual none .none (some env)) Q E s := by
  simp only [newFunctionEnv, Option.isSome_some, if_true]
  refine wpAny_bind (wpAny_alloc ?_)
  refine wpAny_bind (wpAny_layCells _ (fun name kind cells => by cases hkc : kind == NameKind.cell <;> simp) _ _ _ _ ?_)
  have ok := cellsFrom_ok scope.names (s.heap.push { cls := .type "dict", data := .dict #[] }) (s.heap.objs.size + 1) [] ⟨fun _ _ hm => (nomatch hm), List.Pairwise.nil⟩ (by rw [Heap.size_push]; exact Nat.le_refl _)
  rw [Heap.size_push, hcs] at ok
  have hsz : ({ s with heap := s.heap.push { cls := .type "dict", data := .dict #[] } } : Shared).heap.objs.size = s.heap.objs.size + 1 := Heap.size_push ..
  rw [hsz, hcs]
  simp only [List.forIn_nil, pure_bind]
  exact wpAny_pure (h _ (fun b o e => pushCells_keeps _ _ b o (Heap.get?_push_of_some _ e)) (pushCells_keeps _ _ _ _ (Heap.get?_push_size _ rfl)) (ok.empty x _ (.head _)).1)
theorem forall_mem_at {h h' : Heap} {h₀ : Heap} {L a : Addr} {l : List (Addr × Obj)} (N : News h₀ L h l) (hs : Heap.SameBut a h h') (hne : ∀ p ∈ l, p.1 ≠ a) : News h₀ L h' l :=
  fun p hp => ⟨hs.extBut _ _ (hne p hp) (N p hp).1, (N p hp).2⟩
end
inductive CqEnd (h₀ : Heap) (L : Addr) (m : Str → Option Value) (s₁ : Shared) (I : Addr) (oI : Obj) (C : Addr) (oC : Obj) (c : Addr) (oc : Obj) (D : Addr) (oD : Obj) (rest : Value → List (Addr × Obj) → Prop) (y : Value) (s₂ : Shared) : Prop where
  | mk h' tk news' (h0 : s₂ = { s₁ with heap := h', toks := tk }) (h1 : Fr h₀ L h' m) (h2 : News h₀ L h' ((I, oI) :: (C, oC) :: (c, oc) :: (D, oD) :: news')) (h3 : (∀ p ∈ news', p.1 ≠ I ∧ p.1 ≠ C ∧ p.1 ≠ c ∧ p.1 ≠ D)) (h4 : rest y news') : CqEnd h₀ L m s₁ I oI C oC c oc D oD rest y s₂
theorem CqEnd.intro {h₀ : Heap} {L I C c D : Addr} {m : Str → Option Value} {s₁ : Shared} {oI oC oc oD : Obj} {rest : Value → List (Addr × Obj) → Prop} {y : Value} {h' : Heap} {tk : Nat} {all : List (Addr × Obj)} (news' : List (Addr × Obj))
    (F : Fr h₀ L h' m) (N : News h₀ L h' all) (sub : ∀ p ∈ (I, oI) :: (C, oC) :: (c, oc) :: (D, oD) :: news', p ∈ all) (off : ∀ p ∈ news', p.1 ≠ I ∧ p.1 ≠ C ∧ p.1 ≠ c ∧ p.1 ≠ D) (r : rest y news') :
    CqEnd h₀ L m s₁ I oI C oC c oc D oD rest y { s₁ with heap := h', toks := tk } := ⟨h', tk, news', rfl, F, fun p hp => N p (sub p hp), off, r⟩
inductive QSrc (prog : Program) (w : World) (A : Around) (h₀ : Heap) (L : Addr) (m : Str → Option Value) (env : Env) (elt : PySem.Expr) (x x₂ : Str) (scope : Scope) (Q : Value → Shared → Prop) (xv : Value) (s₁ : Shared) : Prop where
  | mk (ax : Addr) (vs : List Value) (k : Nat) (news : List (Addr × Obj)) (J : Nat → List Value → List (Addr × Obj) → Prop) (h0 : xv = .ref ax) (h1 : A.handled = none) (h2 : Fr h₀ L s₁.heap m) (h3 : News h₀ L s₁.heap news) (h4 : (∀ i ys nw, J i ys nw → (ax, W.listOf vs.toArray k) ∈ nw)) (h5 : vs.length ≤ 1000) (h6 : J 0 [] news) (h7 : (∀ i ys nw v, vs[i]? = some v → J i ys nw → ∃ t v₁ v₂, v = .ref t ∧ (t, ({ cls := .type "tuple", data := .seq #[v₁, v₂] } : Obj)) ∈ nw ∧ ∀ I oI C oC c oc D m₂ h tk (E' : Value → Shared → Prop), NsObj oC m₂ → oc.data = .cell (some v₁) → m₂ x₂ = some v₂ → Fr h₀ L h m → News h₀ L h ((I, oI) :: (C, oC) :: (c, oc) :: (D, lst ys) :: nw) → (∀ p ∈ nw, p.1 ≠ I ∧ p.1 ≠ C ∧ p.1 ≠ c ∧ p.1 ≠ D) → ((@Ne Nat I C) ∧ (@Ne Nat I c) ∧ (@Ne Nat I D) ∧ (@Ne Nat C c) ∧ (@Ne Nat C D) ∧ (@Ne Nat c D)) → wpAny (model prog w) A (eval elt (compEnvC scope [(x, c)] C env)) (CqEnd h₀ L m { s₁ with heap := h, toks := tk } I oI C oC c oc D (lst ys) (fun y nw' => J (i + 1) (ys ++ [y]) nw')) E' { s₁ with heap := h, toks := tk })) (h8 : (∀ D h tk ys nw, J vs.length ys nw → Fr h₀ L h m → News h₀ L h ((D, lst ys) :: nw) → (∀ p ∈ nw, p.1 ≠ D) → Q (.ref D) { s₁ with heap := h, toks := tk })) : QSrc prog w A h₀ L m env elt x x₂ scope Q xv s₁
section
variable {prog : Program} {w : World} {A : Around} {E : Value → Shared → Prop} {s : Shared} {h₀ : Heap} {L : Addr} {m : Str → Option Value} {env : Env}
theorem comp_Q {elt iter : PySem.Expr} {x x₂ : Str} {px px₂ tp : Pos} {tk₀} {scope : Scope} {pos : Pos} {Q : Value → Shared → Prop} (_F₀ : Fr h₀ L s.heap m)
    (hclos : closureFor scope env = pure []) (hcs : ∀ n : Nat, cellsFrom n scope.names [] = [(x, n)]) (hkind : scope.kind = .function)
    (hnames : ∀ y ∈ scope.names, y.2 = .local → scope.names.lookup y.1 = some .local) (hx : ∀ C c, (compEnvC scope [(x, c)] C env).kindOf x = some .cell) (hx₂ : scope.names.lookup x₂ = some .local)
    (h : wpAny (model prog w) A (eval iter env) (QSrc prog w A h₀ L m env elt x x₂ scope Q) E s)
    (hs : ∀ x, foldedSetIterable iter env x = pure x := by intro _; rfl) :
    wpAny (model prog w) A (eval (.ListComp elt [⟨.Tuple [.Name x px, .Name x₂ px₂] tk₀ tp, iter, [], 0⟩] scope pos) env) Q E s := by
  rw [eval_ListComp]
  refine wpAny_comprehension_free (use := none) rfl hs hclos hkind hnames (wpAny_mono h (fun xv s₁ h₁ => ?_) fun _ _ e => e)
  obtain ⟨ax, vs, k, news, J, rfl, hh, F, N, hax, hz, hj, step, fin⟩ := h₁
  have hl : s₁.heap.IsList ax vs.toArray := ⟨_, (N _ (hax _ _ _ hj)).1, rfl, k, rfl⟩
  have hlt : ax < s₁.heap.objs.size := Heap.lt_size (N _ (hax _ _ _ hj)).1
  refine wpAny_pyIter_list hl ?_
  have hI₀ := next_is_new F
  have W := Walks.list (prog := prog) (w := w) hh s₁.heap.objs.size ax (Nat.ne_of_lt hlt) vs.toArray
  have oldI : ∀ b o, s₁.heap.get? b = some o → b < s₁.heap.objs.size := fun b o e => Heap.lt_size e
  have up1 : ∀ b o, s₁.heap.get? b = some o → (s₁.heap.push { cls := .type "list_iterator", data := .fields #[.ref ax, .int 0 0] }).get? b = some o := fun b o e => Heap.get?_push_of_some _ e
  have F1 : Fr h₀ L (s₁.heap.push { cls := .type "list_iterator", data := .fields #[.ref ax, .int 0 0] }) m := F.keeps up1
  have N1 := N.grown up1
  have st1 : (s₁.heap.push { cls := .type "list_iterator", data := .fields #[.ref ax, .int 0 0] }).IsListIter s₁.heap.objs.size ax 0 := ⟨_, Heap.get?_push_size _ rfl, rfl, rfl⟩
  have sz1 : (s₁.heap.push { cls := .type "list_iterator", data := .fields #[.ref ax, .int 0 0] }).objs.size = s₁.heap.objs.size + 1 := Heap.size_push ..
  have offI : ∀ p ∈ news, p.1 ≠ s₁.heap.objs.size := fun p hp => Nat.ne_of_lt (Heap.lt_size (N p hp).1)
  have hLI : L ≠ s₁.heap.objs.size := Nat.ne_of_lt F.ns.lt
  generalize s₁.heap.push { cls := .type "list_iterator", data := .fields #[.ref ax, .int 0 0] } = H1 at *
  generalize s₁.heap.objs.size = I at *
  refine wpAny_newObj_type (newEnv_cell hcs fun h₂ k₂ gC gc => ?_)
  dsimp only at k₂ gC gc ⊢
  have hD₀ : h₀.get? H1.objs.size = none := next_is_new F1
  have F2 : Fr h₀ L (H1.push { cls := .type "list", dict := none, data := .seq ([] : List Value).toArray }) m := F1.push _
  have hC₀ := next_is_new F2
  have sz2 : (H1.push { cls := .type "list", dict := none, data := .seq ([] : List Value).toArray }).objs.size = H1.objs.size + 1 := Heap.size_push ..
  rw [sz2] at gC gc hC₀ ⊢
  have gD : h₂.get? H1.objs.size = some (lst []) := k₂ _ _ (Heap.get?_push_size _ rfl)
  have up2 : ∀ b o, H1.get? b = some o → h₂.get? b = some o := fun b o e => k₂ _ _ (Heap.get?_push_of_some _ e)
  have hltD : ∀ b o, H1.get? b = some o → b < H1.objs.size := fun b o e => Heap.lt_size e
  have F3 : Fr h₀ L h₂ m := F1.keeps up2
  have N3 := N1.grown up2
  have hLs : L < H1.objs.size := F1.ns.lt
  have fresh : ∀ b, H1.objs.size ≤ b → h₀.get? b = none := fun b hb => Heap.get?_none_of_le (Nat.le_trans F1.above (Nat.le_trans (Nat.le_of_lt hLs) hb))
  obtain ⟨oI, gI, cI, dI⟩ := st1
  have hIs : I < H1.objs.size := Heap.lt_size gI
  have st3 : h₂.IsListIter I ax 0 := ⟨oI, up2 _ _ gI, cI, dI⟩
  have offD : ∀ p ∈ news, p.1 < H1.objs.size := fun p hp => Heap.lt_size (N1 p hp).1
  generalize H1.objs.size = D at *
  have hc₀ : h₀.get? (D + 1 + 1) = none := fresh _ (by omega)
  obtain ⟨oc, gc1, gc2⟩ := gc
  have hID : (@Ne Nat I D) := Nat.ne_of_lt hIs
  have hIC : (@Ne Nat I (D + 1)) := Nat.ne_of_lt (Nat.lt_succ_of_lt hIs)
  have hIc : (@Ne Nat I (D + 1 + 1)) := Nat.ne_of_lt (Nat.lt_succ_of_lt (Nat.lt_succ_of_lt hIs))
  have hCc : (@Ne Nat (D + 1) (D + 1 + 1)) := by omega
  have hCD : (@Ne Nat (D + 1) D) := by omega
  have hcD : (@Ne Nat (D + 1 + 1) D) := by omega
  have hLD : (@Ne Nat L D) := Nat.ne_of_lt hLs
  have hLC : (@Ne Nat L (D + 1)) := Nat.ne_of_lt (Nat.lt_succ_of_lt hLs)
  have hLc : (@Ne Nat L (D + 1 + 1)) := Nat.ne_of_lt (Nat.lt_succ_of_lt (Nat.lt_succ_of_lt hLs))
  have off0 : ∀ p ∈ news, p.1 ≠ I ∧ p.1 ≠ D + 1 ∧ p.1 ≠ D + 1 + 1 ∧ p.1 ≠ D := fun p hp => ⟨offI p hp, Nat.ne_of_lt (Nat.lt_succ_of_lt (offD p hp)), Nat.ne_of_lt (Nat.lt_succ_of_lt (Nat.lt_succ_of_lt (offD p hp))), Nat.ne_of_lt (offD p hp)⟩
  have N4 : News h₀ L h₂ ((D + 1, { cls := .type "dict", data := .dict #[] }) :: (D + 1 + 1, oc) :: (D, lst []) :: news) :=
    List.forall_mem_cons.mpr ⟨⟨gC, Ne.symm hLC, fresh _ (by omega)⟩, List.forall_mem_cons.mpr ⟨⟨gc1, Ne.symm hLc, hc₀⟩, List.forall_mem_cons.mpr ⟨⟨gD, Ne.symm hLD, hD₀⟩, N3⟩⟩⟩
  have nsC : NsObj { cls := .type "dict", data := .dict #[] } (fun _ => none) := ⟨#[], _, rfl, fun e he => absurd he (by simp), fun _ => rfl⟩
  have loop : ∀ s₃ : Shared, (∃ tk, s₃ = { s₁ with heap := h₂, toks := tk }) →
      codeAny (model prog w) A (.compLoop (.ListComp elt [⟨.Tuple [.Name x px, .Name x₂ px₂] tk₀ tp, iter, [], 0⟩] scope pos) 0 (.ref I) (.ref D) (compEnvC scope [(x, D + 1 + 1)] (D + 1) env))
        (compPost (model prog w) A E none Q (.ref D) (D + 1)) s₃ := by
    rintro s₃ ⟨tk₃, rfl⟩
    refine codeAny_compLoop_pair
      (fun n s' => ∃ h' tk i ys m' nw oC oc vc, s' = { s₁ with heap := h', toks := tk } ∧ i ≤ vs.length ∧ n = vs.length + 1 - i ∧ ys.length = i ∧ h'.IsListIter I ax i ∧ Fr h₀ L h' m ∧ NsObj oC m' ∧ oc.data = .cell vc ∧ News h₀ L h' ((D + 1, oC) :: (D + 1 + 1, oc) :: (D, lst ys) :: nw) ∧
        (∀ p ∈ nw, p.1 ≠ I ∧ p.1 ≠ D + 1 ∧ p.1 ≠ D + 1 + 1 ∧ p.1 ≠ D) ∧ J i ys nw) ?_ (vs.length + 1)
      ⟨h₂, _, 0, [], _, news, _, oc, none, rfl, Nat.zero_le _, rfl, rfl, st3, F3, nsC, gc2, N4, off0, hj⟩
    rintro n s' ⟨h', tk, i, ys, m', nw, oC', oc', vc, rfl, hi, rfl, hyl, hst', F', hC', hc', N', off', hJ⟩
    have hla : h'.IsList ax vs.toArray := ⟨_, (N' _ (.tail _ (.tail _ (.tail _ (hax _ _ _ hJ))))).1, rfl, k, rfl⟩
    have hsz : vs.toArray.size = vs.length := List.size_toArray ..
    by_cases hlt2 : i < vs.length
    · refine W.item i _ _ _ (by rw [hsz]; exact hlt2) ⟨hst', hla⟩ fun v h₃ tk₃ hPv hst₃ hk₃ => ?_
      obtain ⟨t, v₁, v₂, rfl, hmt, R⟩ := step i ys nw v (by simpa using hPv) hJ
      have F₃ := fr_but F' hk₃ hLI hI₀
      have N₃ : News h₀ L h₃ _ := news_but N' hk₃ (List.forall_mem_cons.mpr ⟨Ne.symm hIC, List.forall_mem_cons.mpr ⟨Ne.symm hIc, List.forall_mem_cons.mpr ⟨Ne.symm hID, fun p hp => (off' p hp).1⟩⟩⟩)
      refine wpAny_letOwnedTupleGo_listiter hst₃.1 ?_
      refine assign_Tuple_tuple hh ⟨_, (N₃ _ (.tail _ (.tail _ (.tail _ hmt)))).1, rfl, 0, rfl⟩ rfl rfl fun h₅ he => ?_
      have he' : ∀ b o, h₃.get? b = some o → h₅.get? b = some o := fun b o e => he b o (Nat.ne_of_lt (Heap.lt_size e)) e
      have F₅ := F₃.keeps he'
      have N₅ := N₃.grown he'
      have z2 := N₅ _ (.tail _ (.head _))
      refine assignInOrder_cons (wpAny_assign_Name (wpAny_storeName_cell (v₀ := vc) (c := D + 1 + 1) (by simpa [compEnvC, relabel] using hkind) (hx _ _) (by simp [compEnvC]) ⟨oc', z2.1, hc'⟩ fun h₆ hc₆ hs₆ => ?_))
      obtain ⟨oc6, gc6, dc6⟩ := hc₆
      have F₆ := Fr.change F₅ hs₆ z2.2.1 z2.2.2
      have Nx := News.sub N₅ (news' := (D + 1, oC') :: (D, lst ys) :: nw) (sub_cons (.head _) fun q hq => .tail _ (.tail _ hq))
      have N₆ := forall_mem_at Nx hs₆ (List.forall_mem_cons.mpr ⟨hCc, List.forall_mem_cons.mpr ⟨Ne.symm hcD, fun p hp => (off' p hp).2.2.1⟩⟩)
      have zC := N₆ _ (.head _)
      refine assignInOrder_cons (wpAny_assign_Name (wpAny_storeName_local (lookup_relabel_local hx₂) (NsObj.ns hC' zC.1) (fun h₇ hn₇ hs₇ => ?_) (by simp [compEnvC, relabel, hkind])))
      refine assignInOrder_nil ?_
      obtain ⟨oC7, gC7, hC7⟩ := ns_obj hn₇
      have F₇ := Fr.change F₆ hs₇ zC.2.1 zC.2.2
      have N₇ := forall_mem_at (News.sub N₆ fun q hq => .tail _ hq) hs₇ (List.forall_mem_cons.mpr ⟨Ne.symm hCD, fun p hp => (off' p hp).2.1⟩)
      obtain ⟨oI3, gI3, cI3, dI3⟩ := hst₃.1
      have gI7 : h₇.get? I = some oI3 := hs₇.extBut _ _ hIC (hs₆.extBut _ _ hIc (he' _ _ gI3))
      have NI : News h₀ L h₇ ((I, oI3) :: (D + 1, oC7) :: (D + 1 + 1, oc6) :: (D, lst ys) :: nw) :=
        List.forall_mem_cons.mpr ⟨⟨gI7, Ne.symm hLI, hI₀⟩, List.forall_mem_cons.mpr ⟨⟨gC7, zC.2⟩, List.forall_mem_cons.mpr ⟨⟨hs₇.extBut _ _ (Ne.symm hCc) gc6, z2.2⟩, N₇⟩⟩⟩
      refine wpAny_mono (R I oI3 (D + 1) oC7 (D + 1 + 1) oc6 D _ h₇ _ _ hC7 dc6 (by simp) F₇ NI off' ⟨hIC, hIc, hID, hCc, hCD, hcD⟩) (fun y s₄ h₄ => ?_) fun _ _ e => e
      obtain ⟨h₈, tk₈, nw₈, rfl, F₈, N₈, off₈, J₈⟩ := h₄
      have zD := N₈ _ (.tail _ (.tail _ (.tail _ (.head _))))
      have zI := N₈ _ (.head _)
      refine append_at (hsz := by show ys.toArray.size ≤ sizeLine; rw [List.size_toArray, hyl, sizeLine_eq]; omega) zD.1 fun h₉ hs₉ hD₉ => ?_
      refine ⟨vs.length + 1 - (i + 1), by omega, h₉, tk₈, i + 1, ys ++ [y], _, nw₈, oC7, oc6, _, rfl, hlt2, rfl, by rw [List.length_append, List.length_singleton, hyl], ⟨oI3, hs₉.extBut _ _ hID zI.1, cI3, dI3⟩, Fr.change F₈ hs₉ zD.2.1 zD.2.2, hC7, dc6, ?_, off₈, J₈⟩
      refine List.forall_mem_cons.mpr ⟨⟨hs₉.extBut _ _ hCD (N₈ _ (.tail _ (.head _))).1, (N₈ _ (.tail _ (.head _))).2⟩, List.forall_mem_cons.mpr ⟨⟨hs₉.extBut _ _ hcD (N₈ _ (.tail _ (.tail _ (.head _)))).1, (N₈ _ (.tail _ (.tail _ (.head _)))).2⟩, List.forall_mem_cons.mpr ⟨⟨hD₉.trans (congrArg some (lst_snoc ys y)), zD.2⟩, ?_⟩⟩⟩
      exact forall_mem_at (News.sub N₈ fun q hq => .tail _ (.tail _ (.tail _ (.tail _ hq)))) hs₉ fun p hp => (off₈ p hp).2.2.2
    · obtain rfl : i = vs.length := Nat.le_antisymm hi (Nat.not_lt.mp hlt2)
      refine W.done _ _ _ (by rw [hsz]; exact ⟨hst', hla⟩) fun h₃ tk₃ hk₃ => ?_
      have F₃ := fr_but F' hk₃ hLI hI₀
      have N₃ : News h₀ L h₃ _ := news_but N' hk₃ (List.forall_mem_cons.mpr ⟨Ne.symm hIC, List.forall_mem_cons.mpr ⟨Ne.symm hIc, List.forall_mem_cons.mpr ⟨Ne.symm hID, fun p hp => (off' p hp).1⟩⟩⟩)
      have zC := N₃ _ (.head _)
      refine ⟨m', NsObj.ns hC' zC.1, fun h'' hs'' => ?_⟩
      refine fin D h'' tk₃ ys nw hJ (Fr.change F₃ hs'' zC.2.1 zC.2.2) (forall_mem_at (News.sub N₃ fun q hq => .tail _ (.tail _ hq)) hs'' (List.forall_mem_cons.mpr ⟨Ne.symm hCD, fun p hp => (off' p hp).2.1⟩)) fun p hp => (off' p hp).2.2.2
  exact codeAny_compStart_list (loop _ ⟨_, rfl⟩) (W.self 0 _ _ _ ⟨st3, ⟨_, (N3 _ (hax _ _ _ hj)).1, rfl, k, rfl⟩⟩ (loop _ ⟨_, rfl⟩))
-- over a range, by an invariant
def RSrc (prog : Program) (w : World) (A : Around) (h₀ : Heap) (L : Addr) (m : Str → Option Value) (env : Env) (elt : PySem.Expr) (x : Str) (scope : Scope) (cl : List (Str × Addr)) (Q : Value → Shared → Prop) (xv : Value) (s₁ : Shared) : Prop :=
  CompSrc prog w A h₀ L m env elt x scope cl (fun s₂ => FinE h₀ L m s₂ Q) xv s₁
def RTSrc (prog : Program) (w : World) (A : Around) (h₀ : Heap) (L : Addr) (m : Str → Option Value) (env : Env) (ct elt : PySem.Expr) (x : Str) (scope : Scope) (cl : List (Str × Addr)) (Q : Value → Shared → Prop) (xv : Value) (s₁ : Shared) : Prop :=
  LCt.CompSrcT prog w A h₀ L m env ct elt x scope cl (fun s₂ => FinE h₀ L m s₂ Q) xv s₁
theorem comp_R {elt iter : PySem.Expr} {x : Str} {px : Pos} {scope : Scope} {cl : List (Str × Addr)} {pos : Pos} {Q : Value → Shared → Prop} (F₀ : Fr h₀ L s.heap m)
    (hclos : closureFor scope env = pure cl) (hcell : ∀ y ∈ scope.names, y.2 ≠ .cell) (hkind : scope.kind = .function)
    (hnames : ∀ y ∈ scope.names, y.2 = .local → scope.names.lookup y.1 = some .local) (hx : scope.names.lookup x = some .local)
    (h : wpAny (model prog w) A (eval iter env) (RSrc prog w A h₀ L m env elt x scope cl Q) E s)
    (hs : ∀ x, foldedSetIterable iter env x = pure x := by intro _; rfl) :
    wpAny (model prog w) A (eval (.ListComp elt [⟨.Name x px, iter, [], 0⟩] scope pos) env) Q E s := ListComp_U F₀ hclos hcell hkind hnames hx h hs
theorem comp_RT {ct elt iter : PySem.Expr} {x : Str} {px : Pos} {scope : Scope} {cl : List (Str × Addr)} {pos : Pos} {Q : Value → Shared → Prop} (F₀ : Fr h₀ L s.heap m)
    (hclos : closureFor scope env = pure cl) (hcell : ∀ y ∈ scope.names, y.2 ≠ .cell) (hkind : scope.kind = .function)
    (hnames : ∀ y ∈ scope.names, y.2 = .local → scope.names.lookup y.1 = some .local) (hx : scope.names.lookup x = some .local)
    (h : wpAny (model prog w) A (eval iter env) (RTSrc prog w A h₀ L m env ct elt x scope cl Q) E s)
    (hs : ∀ x, foldedSetIterable iter env x = pure x := by intro _; rfl) :
    wpAny (model prog w) A (eval (.ListComp elt [⟨.Name x px, iter, [ct], 0⟩] scope pos) env) Q E s := LCt.ListComp_T F₀ hclos hcell hkind hnames hx h hs
theorem srcR_L {elt : PySem.Expr} {x : Str} {scope : Scope} {cl : List (Str × Addr)} {Q : Value → Shared → Prop} {r : Addr} {a₀ b₀ : Int} {t₀ u₀ v₀ : Tok} {news : List (Addr × Obj)} {s₁ : Shared} (n : Nat) (Jf : Nat → List Value → Prop)
    (hh : A.handled = none) (F : Fr h₀ L s₁.heap m) (N : News h₀ L s₁.heap news) (hr : IsRange s₁.heap r a₀ b₀ 1 t₀ u₀ v₀) (ha : -(2 ^ 20) ≤ a₀ ∧ a₀ ≤ 2 ^ 20) (hb : -(2 ^ 20) ≤ b₀ ∧ b₀ ≤ 2 ^ 20) (hn : (b₀ - a₀).toNat = n) (hj : Jf 0 [])
    (step : ∀ (i : Nat) ys u I oI C oC D m₂ h tk (E' : Value → Shared → Prop), i < n → Jf i ys → NsObj oC m₂ → m₂ x = some (.int (a₀ + (i : Int)) u) → Fr h₀ L h m → News h₀ L h ((I, oI) :: (C, oC) :: (D, lst ys) :: news) → (∀ p ∈ news, p.1 ≠ I ∧ p.1 ≠ C ∧ p.1 ≠ D) → ((@Ne Nat I C) ∧ (@Ne Nat I D) ∧ (@Ne Nat C D)) →
      wpAny (model prog w) A (eval elt (compEnvC scope cl C env)) (CmpEnd h₀ L m { s₁ with heap := h, toks := tk } I oI C oC D (lst ys) (fun y nw' => nw' = news ∧ Jf (i + 1) (ys ++ [y]))) E' { s₁ with heap := h, toks := tk })
    (fin : ∀ g ys, Jf n ys → FinE h₀ L m { s₁ with heap := g } Q ys news) : RSrc prog w A h₀ L m env elt x scope cl Q (.ref r) s₁ :=
  CompSrc.range hh F N hr (small_one (by omega) (by omega) (by omega) (by omega)) (by rw [rangeSize_nat, hn]) (by rw [sizeLine_eq]; omega) fun g => restU (n := n) (fun i ys nw => nw = news ∧ Jf i ys) (fun _ _ _ _ => trivial)
    (fun ys nw h => h.1 ▸ fin g ys h.2) (fun i ys nw v I oI C oC D m₂ h tk E' hi hJ hv hC hx F N2 off ne => by
      obtain ⟨rfl, hJ⟩ := hJ
      obtain ⟨u, rfl⟩ := hv
      exact step i ys u I oI C oC D m₂ h tk E' hi hJ hC hx F N2 off ne) _ 0 [] news (Nat.zero_add _) ⟨rfl, hj⟩
theorem srcRT_L {ct elt : PySem.Expr} {x : Str} {scope : Scope} {cl : List (Str × Addr)} {Q : Value → Shared → Prop} {r : Addr} {a₀ b₀ : Int} {t₀ u₀ v₀ : Tok} {news : List (Addr × Obj)} {s₁ : Shared} (n : Nat) (Jf : Nat → List Value → Prop)
    (hh : A.handled = none) (F : Fr h₀ L s₁.heap m) (N : News h₀ L s₁.heap news) (hr : IsRange s₁.heap r a₀ b₀ 1 t₀ u₀ v₀) (ha : -(2 ^ 20) ≤ a₀ ∧ a₀ ≤ 2 ^ 20) (hb : -(2 ^ 20) ≤ b₀ ∧ b₀ ≤ 2 ^ 20) (hn : (b₀ - a₀).toNat = n) (hj : Jf 0 [])
    (step : ∀ (i : Nat) ys u I oI C oC D m₂ h tk (E' : Value → Shared → Prop), i < n → Jf i ys → NsObj oC m₂ → m₂ x = some (.int (a₀ + (i : Int)) u) → Fr h₀ L h m → News h₀ L h ((I, oI) :: (C, oC) :: (D, lst ys) :: news) → (∀ p ∈ news, p.1 ≠ I ∧ p.1 ≠ C ∧ p.1 ≠ D) → ((@Ne Nat I C) ∧ (@Ne Nat I D) ∧ (@Ne Nat C D)) →
      wpAny (model prog w) A (isTrue ct (compEnvC scope cl C env) (eval ct (compEnvC scope cl C env))) (fun ok s' => if ok = true then
        wpAny (model prog w) A (eval elt (compEnvC scope cl C env)) (CmpEnd h₀ L m { s₁ with heap := h, toks := tk } I oI C oC D (lst ys) (fun y nw' => nw' = news ∧ Jf (i + 1) (ys ++ [y]))) E' s'
        else CmpEnd h₀ L m { s₁ with heap := h, toks := tk } I oI C oC D (lst ys) (fun _ nw' => nw' = news ∧ Jf (i + 1) ys) Value.none s') E' { s₁ with heap := h, toks := tk })
    (fin : ∀ g ys, Jf n ys → FinE h₀ L m { s₁ with heap := g } Q ys news) : RTSrc prog w A h₀ L m env ct elt x scope cl Q (.ref r) s₁ :=
  LCt.CompSrcT.range hh F N hr (small_one (by omega) (by omega) (by omega) (by omega)) (by rw [rangeSize_nat, hn]) (by rw [sizeLine_eq]; omega) fun g => restT (n := n) (fun i ys nw => nw = news ∧ Jf i ys) (fun _ _ _ _ => trivial)
    (fun ys nw h => h.1 ▸ fin g ys h.2) (fun i ys nw v I oI C oC D m₂ h tk E' hi hJ hv hC hx F N2 off ne => by
      obtain ⟨rfl, hJ⟩ := hJ
      obtain ⟨u, rfl⟩ := hv
      exact step i ys u I oI C oC D m₂ h tk E' hi hJ hC hx F N2 off ne) _ 0 [] news (Nat.zero_add _) ⟨rfl, hj⟩
end
end Mine

-- A COMPILED PATTERN OF ONE SET OF SIGNS, SEARCHED IN A TEXT THAT HAS NONE OF THEM
namespace Mine
open PySem PySem.Builtin PySem.Builtin.Re
def codeN : Array Nat := #[14, 10, 4, 1, 1, 22, 0, 31, 16, 127, 0, 13, 7, 22, 0, 31, 16, 127, 0, 1]
def codeV : Array Nat := #[14, 14, 4, 1, 1, 9, 4294966783, 0, 0, 2147483648, 0, 0, 0, 0, 0, 13, 11, 9, 4294966783, 0, 0, 2147483648, 0, 0, 0, 0, 0, 1]
def okN (c : Nat) : Bool := 32 ≤ c && c < 127
def okV (c : Nat) : Bool := (32 ≤ c || c == 9) && c < 127
theorem setN {c : Nat} (h : okN c = true) (seen : Sre.Seen) : ∃ seen', Sre.inSet codeN c codeN.size 5 true seen = .ok (false, seen') := by
  simp only [okN, Bool.and_eq_true, decide_eq_true_eq] at h
  have e1 : ¬ (decide (0 ≤ c) && decide (c ≤ 31)) = true := by simp; omega
  have e2 : ¬ (c == 127) = true := by simp; omega
  refine' ⟨?w, ?h⟩
  case h =>
    refine (show Sre.inSet codeN c codeN.size 5 true seen = (if (decide (0 ≤ c) && decide (c ≤ 31)) = true then _ else Sre.inSet codeN c 19 8 true _) from rfl).trans ((if_neg e1).trans ?_)
    refine (show Sre.inSet codeN c 19 8 true _ = (if (c == 127) = true then _ else Sre.inSet codeN c 18 10 true _) from rfl).trans ((if_neg e2).trans ?_)
    exact rfl
theorem bitV : ∀ c, c < 128 → okV c = true → (codeV.getD (5 + (1 + c / 32)) 0).testBit (c % 32) = false := by decide +kernel
theorem setV {c : Nat} (h : okV c = true) (seen : Sre.Seen) : ∃ seen', Sre.inSet codeV c codeV.size 5 true seen = .ok (false, seen') := by
  have h2 : c < 128 := by simp only [okV, Bool.and_eq_true, decide_eq_true_eq] at h; omega
  have e1 : ¬ (decide (c < 256) && (codeV.getD (5 + (1 + c / 32)) 0).testBit (c % 32)) = true := by rw [bitV c h2 h]; simp
  refine' ⟨?w, ?h⟩
  case h =>
    refine (show Sre.inSet codeV c codeV.size 5 true seen = (if (decide (c < 256) && (codeV.getD (5 + (1 + c / 32)) 0).testBit (c % 32)) = true then _ else Sre.inSet codeV c 27 14 true _) from rfl).trans ((if_neg e1).trans ?_)
    exact rfl
def NoneIn (code : Array Nat) (text : Array Nat) : Prop := ∀ i, i < text.size → ∀ seen, ∃ seen', Sre.inSet code (text.getD i 0) code.size 5 true seen = .ok (false, seen')
theorem none_adm {m : Sre.M} (h : NoneIn m.code m.text) (hl : m.lim ≤ m.text.size) : ∀ (fuel s : Nat) (seen : Sre.Seen), ∃ seen', Sre.M.admitted m fuel s seen = .ok (none, seen')
  | 0, s, seen => ⟨seen, rfl⟩
  | fuel + 1, s, seen => by
    rw [Sre.M.admitted.eq_def]
    dsimp only
    split
    · exact ⟨seen, rfl⟩
    · rename_i hs
      obtain ⟨seen', e⟩ := h s (by omega) seen
      rw [e]
      exact none_adm h hl fuel (s + 1) seen'
def SaidNo (m : Sre.M) : Prop := m.answer = some false ∧ m.frames = [] ∧ m.outcome = none
theorem from_no {m : Sre.M} {s : Nat} (hf : m.hasFirstSet = true) (h : NoneIn m.code m.text) (hl : m.lim ≤ m.text.size) (h1 : m.frames = []) (h2 : m.outcome = none) : SaidNo (m.attemptFrom s true) := by
  obtain ⟨seen', e⟩ := none_adm h hl (m.lim + 1 - s) s m.seen
  unfold Sre.M.attemptFrom
  rw [hf, e]
  exact ⟨rfl, h1, h2⟩
theorem search_no {code text : Array Nat} (hf : ((match Sre.ops[code.getD 0 0]? with | some .INFO => true | _ => false) && code.getD 2 0 == 4) = true) (h : NoneIn code text) : SaidNo (Sre.forSearch code text 0 0 text.size false) := by
  unfold Sre.forSearch
  dsimp only
  split
  · exact ⟨rfl, rfl, rfl⟩
  · exact from_no hf h (Nat.le_refl _) rfl rfl
theorem run_no {m : Sre.M} (h : SaidNo m) : m.runFor 4 = { m with outcome := some .failed } := by
  obtain ⟨h1, h2, h3⟩ := h
  have st : m.step = { m with outcome := some .failed } := by
    unfold Sre.M.step
    rw [h3, h1, h2]
    rfl
  rw [Sre.M.runFor.eq_def]; dsimp only
  rw [h3]
  simp only [Option.isSome_none, Bool.false_eq_true, if_false]
  rw [st, Sre.M.runFor.eq_def]; rfl
section
variable {prog : Program} {w : World} {A : Around} {E : Value → Shared → Prop} {s : Shared}
theorem reRun_no {m : Sre.M} {Q : Option Sre.M → Shared → Prop} (h : SaidNo m) (hq : Q none s) : wpAny (model prog w) A (reRunToEnd m) Q E s := by
  have e := run_no h
  unfold reRunToEnd
  refine wpAny_bind ?_
  rw [show (2 : Nat) ^ 64 = (2 ^ 64 - 1) + 1 from rfl, reDrive.eq_def]
  dsimp only
  rw [show reTurnSteps = 4 from rfl, e]
  simp only [Option.isSome_some, if_true]
  refine wpAny_pure ?_
  refine wpAny_bind (wpAny_forIn_list _ (fun _ _ s' => s' = s) _ ?_ ?_ _ _ rfl)
  · rintro x rest b s' rfl
    dsimp only
    split
    · exact wpAny_bind (wpAny_rule (wpAny_pure rfl))
    · exact wpAny_pure rfl
  · rintro b s' rfl
    exact wpAny_pure hq
theorem sre_slot : Slot "re.Pattern" "search" "re.Pattern.search" :=
  .of (owner := "re.Pattern") (n := "search") (by rw [typeLookup_type, builtinLookup_eq_fast]; kernel_rfl) (by decide +kernel) (by decide +kernel) (by decide +kernel)
    (by first | exact .inl (by decide +kernel) | exact .inr (by decide +kernel)) (by rw [isSubtype_type]; kernel_rfl)
theorem sre_entry : entryFor table "re.Pattern.search" = some Builtin.«re.Pattern.search» := entryFor_of_fast (by kernel_rfl)
theorem sre_args (a b : Value) : argsOk "re.Pattern.search" ⟨[a, b], []⟩ := by unfold argsOk; kernel_rfl
theorem sre_named (x : Value) : reNamed "re.Pattern.search" "search" ["string", "pos", "endpos"] 1 [x] [] = pure [some x, none, none] := by with_unfolding_all rfl
theorem sre_search (code : Array Nat) {pa ca : Addr} {pv fl : Value} {t0 : Tok} {cv : Array Value} {n : Nat} {x : Str} {t : Tok} {Q : Value → Shared → Prop}
    (hp : s.heap.get? pa = some { cls := .type "re.Pattern", data := .fields #[pv, fl, .int 0 t0, .none, .none, .ref ca, .int 0 t0] }) (hc : s.heap.get? ca = some { cls := .type "tuple", data := .seq cv n })
    (he : (cv.map reRawOf).map (·.toNat) = code) (hf : ((match Sre.ops[code.getD 0 0]? with | some Sre.Op.INFO => true | _ => false) && code.getD 2 0 == 4) = true) (h : NoneIn code x.cps) (hx : x.length < 2 ^ 60)
    (hq : Q .none s) : wpAny (model prog w) A (call (.builtin "re.Pattern.search") [.ref pa, .str x t]) Q E s := by
  refine wpAny_call_entry sre_slot ⟨_, hp, rfl⟩ sre_entry ?_ (sre_args _ _)
  unfold Builtin.«re.Pattern.search» reTarget
  dsimp only
  rw [sre_named]
  have e : Min.min ((2 ^ 63 - 1 : Int)).toNat x.cps.size = x.cps.size := by
    have : x.cps.size < 2 ^ 60 := hx
    omega
  have key : SaidNo (Sre.forSearch ((cv.map reRawOf).map (·.toNat)) x.cps 0 (Min.min (Int.toNat 0) x.cps.size) (Min.min ((2 ^ 63 - 1 : Int)).toNat x.cps.size) false) := by
    rw [e, show Int.toNat 0 = 0 from rfl, Nat.zero_min]
    rw [he]; exact search_no hf h
  repeat (any_goals (first | (with_reducible refine wpAny_fieldsOf hp rfl ?_) | ((with_reducible show wpAny _ _ (reRunToEnd _) _ _ _); refine reRun_no key ?_) | wp_step))
  exact ⟨_, rfl, hq⟩
theorem plainAttrs_pat : PlainAttrs "re.Pattern" :=
  ⟨⟨"object.__getattribute__", by rw [typeLookup_type, builtinLookup_eq_fast]; kernel_rfl, by decide +kernel⟩, by rw [typeLookup_type, builtinLookup_eq_fast]; kernel_rfl⟩
theorem type_search : typeOf (.builtin "re.Pattern.search") = pure (.type "method_descriptor") := by show builtinType _ = _; rw [builtinType_eq_fast]; kernel_rfl
theorem getMethod_pat {pa : Addr} {o : Obj} {pl : Sem Bool} {Q : Value × List Value → Shared → Prop} (hp : s.heap.get? pa = some o) (hc : o.cls = .type "re.Pattern") (hd : o.dict = none) (h : Q (.builtin "re.Pattern.search", [.ref pa]) s) :
    wpAny (model prog w) A (getMethod (.ref pa) "search" pl) Q E s :=
  getMethod_builtin ⟨o, hp, hc⟩ plainAttrs_pat sre_slot type_search (fun a e => by cases e; exact ⟨o, hp, hd⟩) h
theorem none_of {code : Array Nat} {x : Str} (ok : Nat → Bool) (hs : ∀ c, ok c = true → ∀ seen, ∃ seen', Sre.inSet code c code.size 5 true seen = .ok (false, seen')) (h : ∀ c ∈ x.cps.toList, ok c = true) : NoneIn code x.cps := fun i hi seen => by
  refine hs _ (h _ ?_) seen
  rw [Array.getD_eq_getD_getElem?, Array.getElem?_eq_getElem hi]
  exact Array.getElem_mem_toList ..
end
end Mine

local macro_rules | `(tactic| k_upd) => `(tactic| (with_reducible show Mine.UpdS _ _ _); first | exact Mine.UpdS.nil | (refine' Mine.UpdS.hit ?a ?b; (case a => k_memK); (case b => k_upd)) | (refine' Mine.UpdS.skip ?a ?b; (case a => k_all); (case b => k_upd)) | (refine' Mine.UpdS.own ?a; (case a => (repeat (first | exact List.forall_mem_nil _ | (refine' List.forall_mem_cons.mpr ⟨?a1, ?_⟩; (case a1 => k_all)))))))
local macro_rules | `(tactic| walk_at "ѐ") => `(tactic| first | (simp only [List.length_nil, List.length_cons]; omega) | omega)
local macro_rules | `(tactic| walk_at "ё") => `(tactic| (try simp only [List.isEmpty_nil, List.isEmpty_cons, Bool.not_true, Bool.not_false]))
local macro_rules | `(tactic| walk_at "truthy ref") => Mine.ln `Mine.truthy_L 3 0 true "AaBmCѐ" none 0 0 "Ia Tё"
local macro_rules | `(tactic| walk_at "ђ") => `(tactic| exact BindsTo.of_eq rfl)
local macro_rules | `(tactic| walk_at "ѓ") => `(tactic| decide +kernel)
local macro_rules | `(tactic| kc_enter) => Mine.ln2 `Mine.enter_cells 0 14 3 true "FfGfHsAaBaCaDaEaIiJiKrLђMfNѓOfPfQf"
local macro_rules | `(tactic| walk_at "delItem ref") => do
  let g := (some (← `(term| wpAny _ _ (delItem (Value.ref _) _) _ _ _)))
  Mine.ln `Mine.delItem_own 6 0 true "AaBaCIEiFiDi" g 0 0 ""
local macro_rules | `(tactic| walk_at "exec While Compare cons nil") => Mine.ln `Mine.while_stop 0 0 false "" none 0 0 ""
local macro_rules | `(tactic| walk_at "WPost") => `(tactic| dsimp only [Mine.WPost])
local macro_rules | `(tactic| walk_at "ite") => `(tactic| (k_here; first | (refine Mine.ite_yes (by with_reducible assumption) ?_) | (refine Mine.ite_noB (by with_reducible assumption) ?_)))
local macro_rules | `(tactic| walk_at "є") => `(tactic| first | omega | (simp only [List.length_nil, List.length_cons]; omega))
local macro_rules | `(tactic| walk_at "call builtin:len") => do
  let g := (some (← `(term| wpAny _ _ (call (Value.builtin "len") [Value.ref _]) _ _ _)))
  Mine.ln `Mine.len_L 3 0 true "AaBmCє" g 0 0 "Iab"
local macro_rules | `(tactic| walk_at "binaryOp Add ref ref") => Mine.ln `Mine.add_LL 5 0 true "AaBaCmDmEo" none 0 0 "Iabcde Le W"
theorem Mine.tt_p_lx : True := by w_top off; exact trivial
namespace Mine
-- U-WHOLE
-- THE LEXER: what `read` does is a premise (ReadsOk), proved at the top where its def stands written
inductive SgAre : List Value → List Nat → Prop where
  | nil : SgAre [] []
  | cons {c : Nat} {t : Tok} {vs : List Value} {cs : List Nat} : SgAre vs cs → SgAre (.str ⟨#[c]⟩ t :: vs) (c :: cs)
theorem SgAre.length {vs : List Value} {cs : List Nat} (h : SgAre vs cs) : vs.length = cs.length := by
  induction h with
  | nil => rfl
  | cons _ ih => rw [List.length_cons, List.length_cons, ih]
def headStr : List Nat → Str
  | [] => ""
  | c :: _ => ⟨#[c]⟩
def ReadsOk (prog : Program) (w : World) (K : Frag) (p : Program) (loose : List Str) (mean : ExcName → Option Value) (mg mb : Str → Option Value) (rf sg : Addr) (own : List (Addr × Obj)) : Prop :=
  ∀ (dp un : Nat) (gd : Option (List Code)) (cn : Str) (cs : Scope) (a : Addr) (ccd : Value) (cl : List (Str × Addr)) (outer : List Env) (A₀ : Around) (base h₀ : Heap) (L : Addr) (m : Str → Option Value) (news : List (Addr × Obj)) (s : Shared) (Q E : Value → Shared → Prop)
    (svs : List Value) (chs : List Nat) (k : Nat) (t : Tok),
    Below A₀ base outer h₀ → Fr h₀ L s.heap m → K.In h₀ → News h₀ L s.heap news → Top p loose mean mg mb h₀ → cs.kind = .function → dp + 3 < recursionLimit →
    (∀ p ∈ own, p ∈ news) → (sg, W.listOf svs.toArray k) ∈ news → SgAre svs chs → chs.length ≤ 1000 →
    (∀ tk h' tk' svs' k', Fr h₀ L h' m → Keeps [sg] s.heap h' → News h₀ L h' [(sg, W.listOf svs'.toArray k')] → SgAre svs' chs.tail → Q (.str (headStr chs) tk) { s with heap := h', toks := tk' }) →
    wpAny (model prog w) (ktrTop dp un gd cn cs L a ccd cl outer) (call (.ref rf) [.int 1 t]) Q E s
def IsReadDict (o : Obj) (rf : Addr) : Prop := ∃ es ep, o.data = .dict es ep ∧ StrKeys es ∧ UniqKeys es ∧ ∀ name, nsFind es name = if name = Str.ofString "read" then some (.ref rf) else none
abbrev fnObj (sd : Option Addr) (fd : FuncData) (sl : Array (Option Value)) : Obj := ⟨.type "function", sd, .func fd, sl⟩
theorem ReadsOk.mono {prog : Program} {w : World} {K : Frag} {p : Program} {loose : List Str} {mean : ExcName → Option Value} {mg mb : Str → Option Value} {rf sg : Addr} {own own' : List (Addr × Obj)} (hR : ReadsOk prog w K p loose mean mg mb rf sg own) (k : ∀ q ∈ own, q ∈ own') : ReadsOk prog w K p loose mean mg mb rf sg own' :=
  fun dp un gd cn cs a ccd cl outer A₀ base h₀ L m news s Q E svs chs kk t B F X N T hk hd ho hm hs hl ret => hR dp un gd cn cs a ccd cl outer A₀ base h₀ L m news s Q E svs chs kk t B F X N T hk hd (fun q hq => ho q (k q hq)) hm hs hl ret
section
variable {prog : Program} {w : World} {A : Around} {E : Value → Shared → Prop} {s : Shared} {h₀ : Heap} {L : Addr} {news : List (Addr × Obj)}
theorem fn_read {st sd rf : Addr} {fd : FuncData} {sl : Array (Option Value)} {oS : Obj} {pl : Sem Bool} {Q : Value × List Value → Shared → Prop} (N : News h₀ L s.heap news) (m1 : (st, (⟨.type "function", some sd, .func fd, sl⟩ : Obj)) ∈ news) (m2 : (sd, oS) ∈ news) (hr : IsReadDict oS rf)
    (h : ∀ tk, Q (.ref rf, []) { s with toks := tk }) : wpAny (model prog w) A (getMethod (.ref st) "read" pl) Q E s := by
  obtain ⟨es, ep, a1, a2, a3, a4⟩ := hr
  exact fn_getmethod (mA := fun name => if name = Str.ofString "read" then some (.ref rf) else none) fn_lk_read (N _ m1).1 ⟨oS, es, ep, (N _ m2).1, a1, a2, a3, a4⟩ (if_pos rfl) rfl (h _)
end
abbrev lexDict (P : Params) (ws : Str) (ln : Int) (st pb : Addr) (t1 t2 t3 t4 t5 t6 : Tok) : Obj :=
  dictOf [⟨PyData.keyHash P "lineno", .str "lineno" t1, .int ln t5⟩, ⟨PyData.keyHash P "instream", .str "instream" t2, .ref st⟩, ⟨PyData.keyHash P "whitespace", .str "whitespace" t3, .str ws t6⟩, ⟨PyData.keyHash P "pushback", .str "pushback" t4, .ref pb⟩] 4
theorem ReadsOk.useS {prog : Program} {w : World} {K : Frag} {p : Program} {loose : List Str} {mean : ExcName → Option Value} {mg mb : Str → Option Value} {rf sg : Addr} {own : List (Addr × Obj)} (hR : ReadsOk prog w K p loose mean mg mb rf sg own)
  {dp un : Nat} {gd : Option (List Code)} {cn : Str} {cs : Scope} {a : Addr} {ccd : Value} {cl : List (Str × Addr)} {outer : List Env} {A₀ : Around} {base h₀ : Heap} {L : Addr} {m : Str → Option Value} {news : List (Addr × Obj)} {s : Shared} {Q E : Value → Shared → Prop} {svs : List Value} {chs : List Nat} {k : Nat} {t : Tok}
  (B : Below A₀ base outer h₀) (F : Fr h₀ L s.heap m) (X : K.In h₀) (N : News h₀ L s.heap news) (T : Top p loose mean mg mb h₀) (hk : cs.kind = .function) (hd : dp + 3 < recursionLimit) (ho : ∀ p ∈ own, p ∈ news) (hm : (sg, W.listOf svs.toArray k) ∈ news) (hs : SgAre svs chs) (hl : chs.length ≤ 1000)
  (ret : ∀ tk h' tk' svs' k', SgAre svs' chs.tail → ∃ news', UpdS [(sg, W.listOf svs'.toArray k')] news news' ∧ (Fr h₀ L h' m → News h₀ L h' news' → Q (.str (headStr chs) tk) { s with heap := h', toks := tk' })) :
  wpAny (model prog w) (ktrTop dp un gd cn cs L a ccd cl outer) (call (.ref rf) [.int 1 t]) Q E s :=
  hR dp un gd cn cs a ccd cl outer A₀ base h₀ L m news s Q E svs chs k t B F X N T hk hd ho hm hs hl fun tk h' tk' svs' k' F' K' N' S' =>
    let ⟨_, u, r⟩ := ret tk h' tk' svs' k' S'
    r F' (News.updS u N K' N')
local macro_rules | `(tactic| walk_at "getMethod ref") => Mine.ln `Mine.fn_read 4 0 false "AaBmCmDs" none 0 0 "Ia D F"
local macro_rules | `(tactic| walk_at "α") => `(tactic| (refine' FnAt.of ?a ?b; (case a => k_asm); (case b => k_mem)))
local macro_rules | `(tactic| walk_at "callWith ref") => Mine.ln `callWith_F 1 0 true "Aα" none 0 0 ""
local macro_rules | `(tactic| walk_at "call ref") => Mine.ln `Mine.ReadsOk.useS 12 0 false "AsBaCaDaEaFaGkISJmKsLsHr" none 0 9 "Iabcdef U Igh D F"
section
variable {w : World} {dp un : Nat} {gd : Option (List Code)} {cn : Str} {cs : Scope} {a : Addr} {ccd : Value} {cl : List (Str × Addr)} {outer : List Env} {A₀ : Around} {base h₀ : Heap} {L : Addr} {m mg mb : Str → Option Value} {p : Program} {loose : List Str} {mean : ExcName → Option Value} {s : Shared} {Q E : Value → Shared → Prop}
theorem read_char_code {R : Result → Shared → Prop} {ws : Str} {x d st sd rf sg pb : Addr} {fd fdR : FuncData} {slR sl : Array (Option Value)} {oS : Obj} {ln : Int} {t1 t2 t3 t4 t5 t6 : Tok} {own : List (Addr × Obj)} {svs : List Value} {chs : List Nat} {k : Nat}
  (B : Below A₀ base outer h₀) (F : Fr h₀ L s.heap m) (X : (Mine.hdm.heap_1 w.params).In h₀) (N : News h₀ L s.heap ((x, instObj 142 d) :: (d, lexDict w.params ws ln st pb t1 t2 t3 t4 t5 t6) :: (st, fnObj (some sd) fd sl) :: (sd, oS) :: (sg, W.listOf svs.toArray k) :: own)) (T : Top p loose mean mg mb h₀) (hk : cs.kind = .function) (hd : dp + 8 < recursionLimit)
  (hR : ReadsOk PySem.Challenge.pw_pg0318_03 w (Mine.hdm.heap_1 w.params) p loose mean mg mb rf sg own) (hrf : (rf, fnObj none fdR slR) ∈ own) (hS : IsReadDict oS rf) (ho : OwnOff own [d, sg]) (hlt : @LT.lt Nat _ sg st ∧ @LT.lt Nat _ st sd ∧ @LT.lt Nat _ sd d ∧ @LT.lt Nat _ d x) (hsv : SgAre svs chs) (hlen : chs.length ≤ 1000)
  (ret : ∀ tk h' tk' svs' k' ln' t5', Fr h₀ L h' m → News h₀ L h' ((x, instObj 142 d) :: (d, lexDict w.params ws ln' st pb t1 t2 t3 t4 t5' t6) :: (st, fnObj (some sd) fd sl) :: (sd, oS) :: (sg, W.listOf svs'.toArray k') :: own) → SgAre svs' chs.tail → R (.ok (.ret (.str (headStr chs) tk))) {s with heap := h', toks := tk'}) :
  codeAny (model PySem.Challenge.pw_pg0318_03 w) (ktrTop dp un gd cn cs L a ccd cl outer) (.call (.ref 125) ⟨[.ref x], []⟩) R s := by
  ktr_enter
  intro g L' h₂ hgs hgk hgn F₂ N₂ B₂ X₂ T₂
  clear hgs hgn B
  change Fr g L' h₂ (mput "self" (some (.ref x)) mnil) at F₂
  try dsimp only
  k_fold
  try (refine Mine.set_walk ?_; intro A₉ e₉)
  k_steps
  all_goals
    try dsimp only
    rename Fr _ _ _ _ => Fz
    rename News _ _ _ _ => Nz
    obtain ⟨F', N', _⟩ := leave F N hgk Fz Nz
    exact ret _ _ _ _ _ _ _ F' N' (by assumption)
end
end Mine

theorem Mine.tt_p_tok : True := by w_top off; exact trivial
namespace Mine
structure LexG where
  (x d st sd sg pb rf : Addr)
  (fd fdR : FuncData)
  (sl slR : Array (Option Value))
  (oS : Obj)
  (t1 t2 t3 t4 t6 : Tok)
  (ws : Str)
abbrev lexLed (P : Params) (G : LexG) (ln : Int) (t5 : Tok) (svs : List Value) (k : Nat) (own : List (Addr × Obj)) : List (Addr × Obj) :=
  (G.x, instObj 142 G.d) :: (G.d, lexDict P G.ws ln G.st G.pb G.t1 G.t2 G.t3 G.t4 t5 G.t6) :: (G.st, fnObj (some G.sd) G.fd G.sl) :: (G.sd, G.oS) :: (G.sg, W.listOf svs.toArray k) :: own
abbrev LexLt (G : LexG) : Prop := @LT.lt Nat _ G.sg G.st ∧ @LT.lt Nat _ G.st G.sd ∧ @LT.lt Nat _ G.sd G.d ∧ @LT.lt Nat _ G.d G.x
abbrev itObj (ended : Bool) (b : Addr) (t0 : Tok) : Obj := if ended then ciEnd else ciObj b t0
inductive AtIt (P : Params) (G : LexG) (I b : Addr) (t0 : Tok) (own : List (Addr × Obj)) (ended : Bool) (chs : List Nat) (news : List (Addr × Obj)) : Prop where
  | mk ln t5 svs k (h0 : news = lexLed P G ln t5 svs k ((I, itObj ended b t0) :: (b, methObj 125 G.x) :: own)) (h1 : SgAre svs chs) (h2 : (ended = true → chs = [])) (h3 : chs.length ≤ 1000) : AtIt P G I b t0 own ended chs news
section
variable {w : World} {dp un : Nat} {gd : Option (List Code)} {cn : Str} {cs : Scope} {a : Addr} {ccd : Value} {cl : List (Str × Addr)} {outer : List Env} {A₀ : Around} {base h₀ : Heap} {L : Addr} {m mg mb : Str → Option Value} {p : Program} {loose : List Str} {mean : ExcName → Option Value} {s : Shared} {E : Value → Shared → Prop}
structure LexOk (PR : Program) (w : World) (K : Frag) (p : Program) (loose : List Str) (mean : ExcName → Option Value) (mg mb : Str → Option Value) (G : LexG) (own : List (Addr × Obj)) : Prop where
  reads : ReadsOk PR w K p loose mean mg mb G.rf G.sg own
  rf : (G.rf, fnObj none G.fdR G.slR) ∈ own
  dict : IsReadDict G.oS G.rf
  off : OwnOff own [G.d, G.sg]
  lt : LexLt G
theorem lex_next {Q : Option Value → Shared → Prop} {G : LexG} {I b : Addr} {t0 : Tok} {own news : List (Addr × Obj)} {ended : Bool} {chs : List Nat}
  (B : Below A₀ base outer h₀) (F : Fr h₀ L s.heap m) (X : (Mine.hdm.heap_1 w.params).In h₀) (N : News h₀ L s.heap news) (T : Top p loose mean mg mb h₀) (hk : cs.kind = .function) (hd : dp + 8 < recursionLimit)
  (O : LexOk PySem.Challenge.pw_pg0318_03 w (Mine.hdm.heap_1 w.params) p loose mean mg mb G own) (hI : @LT.lt Nat _ G.x I) (hb : @LT.lt Nat _ G.x b) (hIb : I ≠ b) (hIo : ∀ q ∈ own, q.1 ≠ I) (A : AtIt w.params G I b t0 own ended chs news)
  (hit : ∀ c r tk h' tk' news', ended = false → chs = c :: r → Fr h₀ L h' m → News h₀ L h' news' → AtIt w.params G I b t0 own false r news' → Q (some (.str ⟨#[c]⟩ tk)) {s with heap := h', toks := tk'})
  (miss : ∀ h' tk' news', chs = [] → Fr h₀ L h' m → News h₀ L h' news' → AtIt w.params G I b t0 own true [] news' → Q none {s with heap := h', toks := tk'}) :
  wpAny (model PySem.Challenge.pw_pg0318_03 w) (ktrTop dp un gd cn cs L a ccd cl outer) (pyNext (.ref I)) Q E s := by
  obtain ⟨ln, t5, svs, k, rfl, hsv, hend, hlen⟩ := A
  have mI : (I, itObj ended b t0) ∈ lexLed w.params G ln t5 svs k ((I, itObj ended b t0) :: (b, methObj 125 G.x) :: own) := .tail _ (.tail _ (.tail _ (.tail _ (.tail _ (.head _)))))
  cases ended with
  | true =>
    obtain rfl := hend rfl
    refine ci_next_end rfl (N _ mI).1 fun h' hk' => ?_
    exact miss h' s.toks _ rfl ⟨F.ns.keeps hk', fun b o e => hk' b o (F.keep b o e), F.above⟩ (fun q hq => ⟨hk' _ _ (N q hq).1, (N q hq).2⟩) ⟨ln, t5, svs, k, rfl, hsv, hend, hlen⟩
  | false =>
    obtain ⟨fc, fo, fd, sl, eK⟩ : ∃ fc fo fd sl, (Mine.hdm.heap_1 w.params).lookup 125 = some ⟨fc, fo, .func fd, sl⟩ := ⟨_, _, _, _, rfl⟩
    have h125 : ∀ {h : Heap} {m' : Str → Option Value}, Fr h₀ L h m' → h.get? 125 = some ⟨fc, fo, .func fd, sl⟩ := fun F' => F'.keep _ _ (X _ _ eK)
    refine ci_next rfl (N _ mI).1 (N (b, methObj 125 G.x) (.tail _ (.tail _ (.tail _ (.tail _ (.tail _ (.tail _ (.head _)))))))).1 (h125 F) ?_
    have hO := O.lt
    refine read_char_code (own := (I, ciObj b t0) :: (b, methObj 125 G.x) :: own) B F X N T hk hd (O.reads.mono fun q hq => .tail _ (.tail _ hq)) (.tail _ (.tail _ O.rf)) O.dict ?_ ⟨hO.1, hO.2.1, hO.2.2.1, hO.2.2.2⟩ hsv hlen ?_
    · intro q hq r hr
      simp only [List.mem_cons] at hq
      simp only [List.mem_cons, List.not_mem_nil, or_false] at hr
      obtain ⟨o1, o2, o3, o4⟩ := hO
      rcases hq with rfl | rfl | hq
      · rcases hr with rfl | rfl <;> (refine neN ?_; dsimp only; omega)
      · rcases hr with rfl | rfl <;> (refine neN ?_; dsimp only; omega)
      · exact O.off q hq r (by simp only [List.mem_cons, List.not_mem_nil, or_false]; exact hr)
    · intro tk h' tk' svs' k' ln' t5' F' N' S'
      have mI' := (N' (I, ciObj b t0) (.tail _ (.tail _ (.tail _ (.tail _ (.tail _ (.head _))))))).1
      have mb' := (N' (b, methObj 125 G.x) (.tail _ (.tail _ (.tail _ (.tail _ (.tail _ (.tail _ (.head _)))))))).1
      refine ⟨_, tk, h', tk', rfl, rfl, mI', mb', h125 F', fun hne => ?_, fun he h'' hk'' hI'' => ?_⟩
      · cases chs with
        | nil => exact absurd rfl hne
        | cons c r => exact hit c r tk h' tk' _ rfl rfl F' N' ⟨ln', t5', svs', k', rfl, S', (fun e => nomatch e), by simp only [List.length_cons] at hlen; omega⟩
      · cases chs with
        | cons c r => exact absurd (show (1 : Nat) = 0 from congrArg (fun x : Str => x.cps.size) he) (by decide)
        | nil =>
          obtain ⟨oL, e1, e2, hL, e3⟩ := F'.ns
          have hLI : L ≠ I := fun e => (N' (I, ciObj b t0) (.tail _ (.tail _ (.tail _ (.tail _ (.tail _ (.head _))))))).2.1 e.symm
          have hnI : h₀.get? I = none := (N' (I, ciObj b t0) (.tail _ (.tail _ (.tail _ (.tail _ (.tail _ (.head _))))))).2.2
          have F'' : Fr h₀ L h'' m := ⟨⟨oL, e1, e2, hk'' _ _ hLI hL, e3⟩, fun b' o e => hk'' b' o (fun q => by rw [q, hnI] at e; cases e) (F'.keep b' o e), F'.above⟩
          refine miss h'' tk' (lexLed w.params G ln' t5' svs' k' ((I, ciEnd) :: (b, methObj 125 G.x) :: own)) rfl F'' ?_ ⟨ln', t5', svs', k', rfl, S', fun _ => rfl, hlen⟩
          have old : ∀ q ∈ lexLed w.params G ln' t5' svs' k' ((I, ciObj b t0) :: (b, methObj 125 G.x) :: own), q.1 ≠ I → h''.get? q.1 = some q.2 ∧ q.1 ≠ L ∧ h₀.get? q.1 = none := fun q hq n => ⟨hk'' _ _ n (N' q hq).1, (N' q hq).2⟩
          obtain ⟨o1, o2, o3, o4⟩ := hO
          refine List.forall_mem_cons.mpr ⟨old _ (.head _) (neN (by dsimp only; omega)), List.forall_mem_cons.mpr ⟨old _ (.tail _ (.head _)) (neN (by dsimp only; omega)), List.forall_mem_cons.mpr ⟨old _ (.tail _ (.tail _ (.head _))) (neN (by dsimp only; omega)), List.forall_mem_cons.mpr ⟨old _ (.tail _ (.tail _ (.tail _ (.head _)))) (neN (by dsimp only; omega)), List.forall_mem_cons.mpr ⟨old _ (.tail _ (.tail _ (.tail _ (.tail _ (.head _))))) (neN (by dsimp only; omega)), List.forall_mem_cons.mpr ⟨⟨hI'', hLI.symm, hnI⟩, List.forall_mem_cons.mpr ⟨old _ (.tail _ (.tail _ (.tail _ (.tail _ (.tail _ (.tail _ (.head _))))))) hIb.symm, fun q hq => old q (.tail _ (.tail _ (.tail _ (.tail _ (.tail _ (.tail _ (.tail _ hq))))))) (hIo q hq)⟩⟩⟩⟩⟩⟩⟩
inductive CEnd (P : Params) (h₀ : Heap) (L : Addr) (G : LexG) (I b : Addr) (t0 : Tok) (own : List (Addr × Obj)) (J : List Nat → (Str → Option Value) → Prop) (n : Nat) (s s₂ : Shared) : Prop where
  | mk h' tk' m' news' chs' ended' (h0 : s₂ = { s with heap := h', toks := tk' }) (h1 : Fr h₀ L h' m') (h2 : News h₀ L h' news') (h3 : AtIt P G I b t0 own ended' chs' news') (h4 : chs'.length ≤ n) (h5 : J chs' m') : CEnd P h₀ L G I b t0 own J n s s₂
theorem CEnd.intro {P : Params} {h₀ : Heap} {L : Addr} {G : LexG} {I b : Addr} {t0 t5 : Tok} {own : List (Addr × Obj)} {J : List Nat → (Str → Option Value) → Prop} {n : Nat} {s : Shared} {h' : Heap} {tk' : Nat} {m' : Str → Option Value} {ln : Int} {svs : List Value} {k : Nat} {chs' : List Nat} (e : Bool)
  (F : Fr h₀ L h' m') (N : News h₀ L h' (lexLed P G ln t5 svs k ((I, itObj e b t0) :: (b, methObj 125 G.x) :: own))) (S : SgAre svs chs') (he : e = true → chs' = []) (hl : chs'.length ≤ n) (hn : n ≤ 1000) (hj : J chs' m') : CEnd P h₀ L G I b t0 own J n s { s with heap := h', toks := tk' } :=
  ⟨h', tk', m', _, chs', e, rfl, F, N, ⟨ln, t5, svs, k, rfl, S, he, Nat.le_trans hl hn⟩, hl, hj⟩
def CPost (P : Params) (h₀ : Heap) (L : Addr) (G : LexG) (I b : Addr) (t0 : Tok) (own : List (Addr × Obj)) (J : List Nat → (Str → Option Value) → Prop) (n : Nat) (s : Shared) (Q : Flow → Shared → Prop) (f : Flow) (s₂ : Shared) : Prop :=
  match f with
  | .ret v => Q (.ret v) s₂
  | .brk => Q .next s₂
  | _ => CEnd P h₀ L G I b t0 own J n s s₂
theorem ci_J {Q : Flow → Shared → Prop} {env : Env} {target : PySem.Expr} {body : List Stmt} {G : LexG} {I b : Addr} {t0 : Tok} {own news : List (Addr × Obj)} {ended : Bool} {chs : List Nat} (J : List Nat → (Str → Option Value) → Prop)
  (B : Below A₀ base outer h₀) (F : Fr h₀ L s.heap m) (X : (Mine.hdm.heap_1 w.params).In h₀) (N : News h₀ L s.heap news) (T : Top p loose mean mg mb h₀) (hk : cs.kind = .function) (hd : dp + 8 < recursionLimit)
  (O : LexOk PySem.Challenge.pw_pg0318_03 w (Mine.hdm.heap_1 w.params) p loose mean mg mb G own) (hI : @LT.lt Nat _ G.x I) (hb : @LT.lt Nat _ G.x b) (hIb : I ≠ b) (hIo : ∀ q ∈ own, q.1 ≠ I) (A : AtIt w.params G I b t0 own ended chs news) (hj : J chs m)
  (turn : ∀ c r u m₁ news₁ h tk, J (c :: r) m₁ → Fr h₀ L h m₁ → News h₀ L h news₁ → AtIt w.params G I b t0 own false r news₁ →
    wpAny (model PySem.Challenge.pw_pg0318_03 w) (ktrTop dp un gd cn cs L a ccd cl outer) (assign target env (.str ⟨#[c]⟩ u)) (fun _ s₃ => wpAny (model PySem.Challenge.pw_pg0318_03 w) (ktrTop dp un gd cn cs L a ccd cl outer) (execs body env) (CPost w.params h₀ L G I b t0 own J r.length { s with heap := h, toks := tk } Q) (fun _ _ => False) s₃) (fun _ _ => False) { s with heap := h, toks := tk })
  (done : ∀ m₁ news₁ h tk, J [] m₁ → Fr h₀ L h m₁ → News h₀ L h news₁ → AtIt w.params G I b t0 own true [] news₁ → Q .next { s with heap := h, toks := tk })
  (ht : ∀ v I, letOwnedTupleGo target (.ref I) v = pure () := by intro _ _; rfl) :
  wpAny (model PySem.Challenge.pw_pg0318_03 w) (ktrTop dp un gd cn cs L a ccd cl outer) (pyIter (.ref I)) (fun it s₂ => JAt PySem.Challenge.pw_pg0318_03 w (ktrTop dp un gd cn cs L a ccd cl outer) env target body Q E it s₂) E s := by
  have hI0 : ∃ o, s.heap.get? I = some o ∧ o.cls = .type "callable_iterator" := by
    obtain ⟨ln, t5, svs, k, rfl, _⟩ := A
    refine ⟨_, (N (I, itObj ended b t0) (.tail _ (.tail _ (.tail _ (.tail _ (.tail _ (.head _))))))).1, ?_⟩
    cases ended <;> rfl
  obtain ⟨oI, gI, cI⟩ := hI0
  refine ci_pyIter gI cI ?_
  unfold JAt
  refine codeAny_forLoop_any (fun k s' => ∃ h' tk m' news' chs' ended', s' = { s with heap := h', toks := tk } ∧ Fr h₀ L h' m' ∧ News h₀ L h' news' ∧ AtIt w.params G I b t0 own ended' chs' news' ∧ J chs' m' ∧ k = chs'.length) ?_ chs.length ⟨s.heap, s.toks, m, news, chs, ended, rfl, F, N, A, hj, rfl⟩
  rintro k s' ⟨h', tk, m', news', chs', ended', rfl, F', N', A', hJ, rfl⟩
  refine lex_next B F' X N' T hk hd O hI hb hIb hIo A' ?_ ?_
  · rintro c r u h₁ tk₁ news₁ rfl rfl F₁ N₁ A₁
    dsimp only
    rw [ht]
    refine wpAny_pure (wpAny_noRaise (wpAny_mono (turn c r u m' news₁ h₁ tk₁ hJ F₁ N₁ A₁) (fun _ s₂ h₂ => ?_) fun _ _ e => e))
    refine wpAny_noRaise (wpAny_mono h₂ (fun f s₃ h₃ => ?_) fun _ _ e => e)
    cases f with
    | ret v => exact h₃
    | brk => exact h₃
    | next =>
      obtain ⟨h₄, tk₄, m₄, news₄, chs₄, e₄, rfl, F₄, N₄, A₄, hl, hJ₄⟩ := h₃
      exact ⟨chs₄.length, by rw [List.length_cons]; omega, h₄, tk₄, m₄, news₄, chs₄, e₄, rfl, F₄, N₄, A₄, hJ₄, rfl⟩
    | cont =>
      obtain ⟨h₄, tk₄, m₄, news₄, chs₄, e₄, rfl, F₄, N₄, A₄, hl, hJ₄⟩ := h₃
      exact ⟨chs₄.length, by rw [List.length_cons]; omega, h₄, tk₄, m₄, news₄, chs₄, e₄, rfl, F₄, N₄, A₄, hJ₄, rfl⟩
  · rintro h₁ tk₁ news₁ rfl F₁ N₁ A₁
    dsimp only
    exact wpAny_execs_nil (done m' news₁ h₁ tk₁ hJ F₁ N₁ A₁)
theorem ci_J2 {Q : Flow → Shared → Prop} {env : Env} {target : PySem.Expr} {body : List Stmt} {G : LexG} {I b : Addr} {t0 t5 : Tok} {ln : Int} {k : Nat} {own : List (Addr × Obj)} {svs : List Value} {chs : List Nat} (Jf : Addr → List Nat → (Str → Option Value) → Prop)
  (B : Below A₀ base outer h₀) (F : Fr h₀ L s.heap m) (X : (Mine.hdm.heap_1 w.params).In h₀) (N : News h₀ L s.heap ((I, ciObj b t0) :: (b, methObj 125 G.x) :: lexLed w.params G ln t5 svs k own)) (T : Top p loose mean mg mb h₀) (hk : cs.kind = .function) (hd : dp + 8 < recursionLimit)
  (O : LexOk PySem.Challenge.pw_pg0318_03 w (Mine.hdm.heap_1 w.params) p loose mean mg mb G own) (hI : @LT.lt Nat _ G.x I) (hb : @LT.lt Nat _ G.x b) (hIb : @LT.lt Nat _ b I) (hIo : AllLt I own) (hsv : SgAre svs chs) (hlen : chs.length ≤ 1000) (hj : Jf I chs m)
  (turn : ∀ c r u m₁ news₁ h tk, Jf I (c :: r) m₁ → Fr h₀ L h m₁ → News h₀ L h news₁ → AtIt w.params G I b t0 own false r news₁ →
    wpAny (model PySem.Challenge.pw_pg0318_03 w) (ktrTop dp un gd cn cs L a ccd cl outer) (assign target env (.str ⟨#[c]⟩ u)) (fun _ s₃ => wpAny (model PySem.Challenge.pw_pg0318_03 w) (ktrTop dp un gd cn cs L a ccd cl outer) (execs body env) (CPost w.params h₀ L G I b t0 own (Jf I) r.length { s with heap := h, toks := tk } Q) (fun _ _ => False) s₃) (fun _ _ => False) { s with heap := h, toks := tk })
  (done : ∀ m₁ news₁ h tk, Jf I [] m₁ → Fr h₀ L h m₁ → News h₀ L h news₁ → AtIt w.params G I b t0 own true [] news₁ → Q .next { s with heap := h, toks := tk })
  (ht : ∀ v I, letOwnedTupleGo target (.ref I) v = pure () := by intro _ _; rfl) :
  wpAny (model PySem.Challenge.pw_pg0318_03 w) (ktrTop dp un gd cn cs L a ccd cl outer) (pyIter (.ref I)) (fun it s₂ => JAt PySem.Challenge.pw_pg0318_03 w (ktrTop dp un gd cn cs L a ccd cl outer) env target body Q E it s₂) E s := by
  refine ci_J (news := lexLed w.params G ln t5 svs k ((I, itObj false b t0) :: (b, methObj 125 G.x) :: own)) (Jf I) B F X (News.sub N fun q hq => ?_) T hk hd O hI hb (Nat.ne_of_gt hIb) (ne_of_allLt hIo) ⟨ln, t5, svs, k, rfl, hsv, (fun e => nomatch e), hlen⟩ hj turn done ht
  simp only [List.mem_cons] at hq ⊢
  rcases hq with h | h | h | h | h | h | h | h
  · exact .inr (.inr (.inl h))
  · exact .inr (.inr (.inr (.inl h)))
  · exact .inr (.inr (.inr (.inr (.inl h))))
  · exact .inr (.inr (.inr (.inr (.inr (.inl h)))))
  · exact .inr (.inr (.inr (.inr (.inr (.inr (.inl h))))))
  · exact .inl h
  · exact .inr (.inl h)
  · exact .inr (.inr (.inr (.inr (.inr (.inr (.inr h))))))
theorem ci_J3 {Q : Flow → Shared → Prop} {env : Env} {target : PySem.Expr} {body : List Stmt} {G : LexG} {I b : Addr} {t0 t5 : Tok} {ln : Int} {k : Nat} {own : List (Addr × Obj)} {svs : List Value} {chs : List Nat} (Jf : Addr → List Nat → (Str → Option Value) → Prop)
  (B : Below A₀ base outer h₀) (F : Fr h₀ L s.heap m) (X : (Mine.hdm.heap_1 w.params).In h₀) (N : News h₀ L s.heap (lexLed w.params G ln t5 svs k ((I, itObj false b t0) :: (b, methObj 125 G.x) :: own))) (T : Top p loose mean mg mb h₀) (hk : cs.kind = .function) (hd : dp + 8 < recursionLimit)
  (O : LexOk PySem.Challenge.pw_pg0318_03 w (Mine.hdm.heap_1 w.params) p loose mean mg mb G own) (hI : @LT.lt Nat _ G.x I) (hb : @LT.lt Nat _ G.x b) (hIb : @LT.lt Nat _ b I) (hIo : AllLt I own) (hsv : SgAre svs chs) (hlen : chs.length ≤ 1000) (hj : Jf I chs m)
  (turn : ∀ c r u m₁ news₁ h tk, Jf I (c :: r) m₁ → Fr h₀ L h m₁ → News h₀ L h news₁ → AtIt w.params G I b t0 own false r news₁ →
    wpAny (model PySem.Challenge.pw_pg0318_03 w) (ktrTop dp un gd cn cs L a ccd cl outer) (assign target env (.str ⟨#[c]⟩ u)) (fun _ s₃ => wpAny (model PySem.Challenge.pw_pg0318_03 w) (ktrTop dp un gd cn cs L a ccd cl outer) (execs body env) (CPost w.params h₀ L G I b t0 own (Jf I) r.length { s with heap := h, toks := tk } Q) (fun _ _ => False) s₃) (fun _ _ => False) { s with heap := h, toks := tk })
  (done : ∀ m₁ news₁ h tk, Jf I [] m₁ → Fr h₀ L h m₁ → News h₀ L h news₁ → AtIt w.params G I b t0 own true [] news₁ → Q .next { s with heap := h, toks := tk })
  (ht : ∀ v I, letOwnedTupleGo target (.ref I) v = pure () := by intro _ _; rfl) :
  wpAny (model PySem.Challenge.pw_pg0318_03 w) (ktrTop dp un gd cn cs L a ccd cl outer) (pyIter (.ref I)) (fun it s₂ => JAt PySem.Challenge.pw_pg0318_03 w (ktrTop dp un gd cn cs L a ccd cl outer) env target body Q E it s₂) E s :=
  ci_J (Jf I) B F X N T hk hd O hI hb (Nat.ne_of_gt hIb) (ne_of_allLt hIo) ⟨ln, t5, svs, k, rfl, hsv, (fun e => nomatch e), hlen⟩ hj turn done ht
theorem read_char_at {Q : Value → Shared → Prop} {G : LexG} {I b : Addr} {e : Bool} {t0 t5 : Tok} {ln : Int} {k : Nat} {own : List (Addr × Obj)} {svs : List Value} {chs : List Nat}
  (B : Below A₀ base outer h₀) (F : Fr h₀ L s.heap m) (X : (Mine.hdm.heap_1 w.params).In h₀) (N : News h₀ L s.heap (lexLed w.params G ln t5 svs k ((I, itObj e b t0) :: (b, methObj 125 G.x) :: own))) (T : Top p loose mean mg mb h₀) (hk : cs.kind = .function) (hd : dp + 8 < recursionLimit)
  (O : LexOk PySem.Challenge.pw_pg0318_03 w (Mine.hdm.heap_1 w.params) p loose mean mg mb G own) (hI : @LT.lt Nat _ G.x I) (hb : @LT.lt Nat _ G.x b) (hsv : SgAre svs chs) (hlen : chs.length ≤ 1000)
  (ret : ∀ tk h' tk' svs' k' ln' t5', Fr h₀ L h' m → News h₀ L h' (lexLed w.params G ln' t5' svs' k' ((I, itObj e b t0) :: (b, methObj 125 G.x) :: own)) → SgAre svs' chs.tail → Q (.str (headStr chs) tk) {s with heap := h', toks := tk'}) :
  wpAny (model PySem.Challenge.pw_pg0318_03 w) (ktrTop dp un gd cn cs L a ccd cl outer) (call (.ref 125) [.ref G.x]) Q E s := by
  have hO := O.lt
  refine wpAny_call (read_char_code (own := (I, itObj e b t0) :: (b, methObj 125 G.x) :: own) B F X N T hk hd (O.reads.mono fun q hq => .tail _ (.tail _ hq)) (.tail _ (.tail _ O.rf)) O.dict ?_ ⟨hO.1, hO.2.1, hO.2.2.1, hO.2.2.2⟩ hsv hlen ret)
  intro q hq r hr
  simp only [List.mem_cons] at hq
  simp only [List.mem_cons, List.not_mem_nil, or_false] at hr
  obtain ⟨o1, o2, o3, o4⟩ := hO
  rcases hq with rfl | rfl | hq
  · rcases hr with rfl | rfl <;> (refine neN ?_; dsimp only; omega)
  · rcases hr with rfl | rfl <;> (refine neN ?_; dsimp only; omega)
  · exact O.off q hq r (by simp only [List.mem_cons, List.not_mem_nil, or_false]; exact hr)
end
end Mine

theorem Mine.tt_p_get : True := by w_top off; exact trivial
namespace Mine
-- GET_TOKEN
def lexQ : List Nat → List Nat → List Nat × List Nat
  | [], acc => (acc, [])
  | c :: r, acc => if c = 34 then (acc, r) else if c = 92 then (match r with | [] => (acc, []) | c' :: r' => lexQ r' (acc ++ [c'])) else lexQ r (acc ++ [c])
def lexB (ws : List Nat) : List Nat → List Nat → List Nat × List Nat
  | [], acc => (acc, [])
  | c :: r, acc => if c ∈ ws then (acc, r) else if c = 92 then (match r with | [] => (acc, []) | c' :: r' => lexB ws r' (acc ++ [c'])) else lexB ws r (acc ++ [c])
def lexO (ws : List Nat) : List Nat → List Nat × List Nat
  | [] => ([], [])
  | c :: r => if c ∈ ws then lexO ws r else if c = 34 then lexQ r [] else if c = 92 then lexB ws r.tail (r.take 1) else lexB ws r [c]
theorem lexQ_n {acc : List Nat} : lexQ [] acc = (acc, []) := rfl
theorem lexB_n {ws acc : List Nat} : lexB ws [] acc = (acc, []) := rfl
theorem lexQ_q {r acc : List Nat} : lexQ (34 :: r) acc = (acc, r) := by rw [lexQ.eq_def]; dsimp only; rw [if_pos rfl]
theorem lexQ_e {r acc : List Nat} : lexQ (92 :: r) acc = lexQ r.tail (acc ++ r.take 1) := by
  rw [lexQ.eq_def]; dsimp only; rw [if_neg (by decide), if_pos rfl]
  cases r with
  | nil => rw [List.tail_nil, List.take_nil, List.append_nil, lexQ_n]
  | cons c r => rfl
theorem lexQ_o {c : Nat} {r acc : List Nat} (h : c ≠ 34) (h2 : c ≠ 92) : lexQ (c :: r) acc = lexQ r (acc ++ [c]) := by rw [lexQ.eq_def]; dsimp only; rw [if_neg h, if_neg h2]
theorem lexB_w {ws : List Nat} {c : Nat} {r acc : List Nat} (h : c ∈ ws) : lexB ws (c :: r) acc = (acc, r) := by rw [lexB.eq_def]; dsimp only; rw [if_pos h]
theorem lexB_e {ws r acc : List Nat} (h : 92 ∉ ws) : lexB ws (92 :: r) acc = lexB ws r.tail (acc ++ r.take 1) := by
  rw [lexB.eq_def]; dsimp only; rw [if_neg h, if_pos rfl]
  cases r with
  | nil => rw [List.tail_nil, List.take_nil, List.append_nil, lexB_n]
  | cons c r => rfl
theorem lexB_o {ws : List Nat} {c : Nat} {r acc : List Nat} (h : c ∉ ws) (h2 : c ≠ 92) : lexB ws (c :: r) acc = lexB ws r (acc ++ [c]) := by rw [lexB.eq_def]; dsimp only; rw [if_neg h, if_neg h2]
theorem lexO_w {ws : List Nat} {c : Nat} {r : List Nat} (h : c ∈ ws) : lexO ws (c :: r) = lexO ws r := by rw [lexO, if_pos h]
theorem lexO_q {ws r : List Nat} (h : 34 ∉ ws) : lexO ws (34 :: r) = lexQ r [] := by rw [lexO, if_neg h, if_pos rfl]
theorem lexO_e {ws r : List Nat} (h : 92 ∉ ws) : lexO ws (92 :: r) = lexB ws r.tail (r.take 1) := by rw [lexO, if_neg h, if_neg (by decide), if_pos rfl]
theorem lexO_o {ws : List Nat} {c : Nat} {r : List Nat} (h : c ∉ ws) (h1 : c ≠ 34) (h2 : c ≠ 92) : lexO ws (c :: r) = lexB ws r [c] := by rw [lexO, if_neg h, if_neg h1, if_neg h2]
theorem occ_no {ws : Str} {c : Nat} (h : (Builtin.Str.occurrences ws ⟨#[c]⟩ 0 ws.length 1).isEmpty = true) : c ∉ ws.cps.toList := by
  have := StrLaws.found_one ws c
  rw [h] at this
  exact of_decide_eq_false this.symm
theorem occ_yes {ws : Str} {c : Nat} (h : (Builtin.Str.occurrences ws ⟨#[c]⟩ 0 ws.length 1).isEmpty = false) : c ∈ ws.cps.toList := by
  have := StrLaws.found_one ws c
  rw [h] at this
  exact of_decide_eq_true this.symm
abbrev stOf (l : List Nat) : Str := ⟨l.toArray⟩
theorem st_len (l : List Nat) : (stOf l).length = l.length := List.size_toArray ..
theorem one_len (c : Nat) : (⟨#[c]⟩ : Str).length = 1 := rfl
theorem st_one (l : List Nat) (c : Nat) : stOf l ++ ⟨#[c]⟩ = stOf (l ++ [c]) := by
  apply Str.ext'; rw [Str.cps_append]; simp
theorem st_head (l r : List Nat) : stOf l ++ headStr r = stOf (l ++ r.take 1) := by
  apply Str.ext'; rw [Str.cps_append]
  cases r with
  | nil => show l.toArray ++ #[] = _; simp
  | cons c r => show l.toArray ++ #[c] = _; simp
theorem st_app (a b : List Nat) : stOf a ++ stOf b = stOf (a ++ b) := by
  show (⟨a.toArray ++ b.toArray⟩ : Str) = _
  rw [List.append_toArray]
theorem st_hd (r : List Nat) : headStr r = stOf (r.take 1) := by cases r <;> rfl
theorem head_len (r : List Nat) : (headStr r).length ≤ 1 := by
  cases r with
  | nil => exact Nat.zero_le _
  | cons c r => exact Nat.le_refl _
theorem tail_take (r : List Nat) : r.tail.length + (r.take 1).length = r.length := by
  cases r with
  | nil => rfl
  | cons c r => simp
theorem ch_is {c k : Nat} {x : Str} (hx : x = ⟨#[k]⟩) (h : ((⟨#[c]⟩ : Str) == x) = true) : c = k := by
  rw [sgn hx] at h; exact of_decide_eq_true h
theorem ch_not {c k : Nat} {x : Str} (hx : x = ⟨#[k]⟩) (h : ((⟨#[c]⟩ : Str) == x) = false) : c ≠ k := by
  rw [sgn hx] at h; exact of_decide_eq_false h
abbrev getMap (vch : Option Value) (acc : List Nat) (tt : Tok) (I x : Addr) : Str → Option Value :=
  mput "ch" vch (mput "fiter" (some (.ref I)) (mput "token" (some (.str (stOf acc) tt)) (mput "self" (some (.ref x)) mnil)))
inductive OJ (ws : List Nat) (T : List Nat × List Nat) (x I : Addr) (chs : List Nat) (m₁ : Str → Option Value) : Prop where
  | mk vch acc tt (h0 : m₁ = getMap vch acc tt I x) (h1 : acc.length + chs.length ≤ 1000) (h2 : ((acc = [] ∧ T = lexO ws chs) ∨ (chs = [] ∧ T = (acc, [])))) : OJ ws T x I chs m₁
inductive QJ (T : List Nat × List Nat) (x I : Addr) (chs : List Nat) (m₁ : Str → Option Value) : Prop where
  | mk vch acc tt (h0 : m₁ = getMap vch acc tt I x) (h1 : acc.length + chs.length ≤ 1000) (h2 : T = lexQ chs acc) : QJ T x I chs m₁
inductive BJ (ws : List Nat) (T : List Nat × List Nat) (x I : Addr) (chs : List Nat) (m₁ : Str → Option Value) : Prop where
  | mk vch acc tt (h0 : m₁ = getMap vch acc tt I x) (h1 : acc.length + chs.length ≤ 1000) (h2 : T = lexB ws chs acc) : BJ ws T x I chs m₁
local macro_rules | `(tactic| walk_at "call builtin:iter") => Mine.ln `Mine.ci_iter_K 3 0 true "AaBaCm" none 0 0 "Iabcde Le W"
local macro_rules | `(tactic| walk_at "call ref") => Mine.ln `Mine.read_char_at 12 0 false "AaBaCaDaEaFkHsIoJoKsLsGr" none 0 0 "Iabcdefghij D F"
local macro_rules | `(tactic| walk_at "α") => `(tactic| (rw [sizeLine_eq]; (try simp only [Mine.st_len, Mine.one_len, List.length_nil]); omega))
local macro_rules | `(tactic| walk_at "binaryOp Add str str") => Mine.ln `PyProof.Rows.add_str 0 1 false "Aα" none 0 0 "Iab"
local macro_rules | `(tactic| walk_at "inplaceOp Add str str") => Mine.ln `PyProof.Rows.iadd_str 0 1 false "Aα" none 0 0 "Iab"
local macro_rules | `(tactic| walk_at "CPost") => `(tactic| dsimp only [Mine.CPost])
local macro_rules | `(tactic| law_fin) => `(tactic| exact mext ["ch", "fiter", "token", "self"] ⟨rfl, rfl, rfl, rfl, trivial⟩ (by intro y hy; simp only [Off] at hy; simp [getMap, mput, mnil, hy]))
inductive GetCut (P : Params) (g : Heap) (L : Addr) (G : LexG) (own : List (Addr × Obj)) (T : List Nat × List Nat) (n : Nat) (I b : Addr) (t0 tt : Tok) (s : Shared) (f : Flow) (s' : Shared) : Prop where
  | mk h' tk' a u ln' t5' svs' k' r2 (e0 : f = .next) (e1 : s' = {s with heap := h', toks := tk'}) (F : Fr g L h' (getMap (some (.str (stOf a) u)) [] tt I G.x)) (N : News g L h' (lexLed P G ln' t5' svs' k' ((I, itObj false b t0) :: (b, methObj 125 G.x) :: own))) (S : SgAre svs' r2) (hl : a.length + r2.length ≤ 1000) (hl2 : r2.length ≤ n) (hT : T = lexB G.ws.cps.toList r2 a) : GetCut P g L G own T n I b t0 tt s f s'
local macro_rules | `(tactic| walk_at "exec If Compare cons nil") => Mine.ln `Mine.if_stop 0 0 false "" none 0 0 ""
section
variable {w : World} {dp un : Nat} {gd : Option (List Code)} {cn : Str} {cs : Scope} {a : Addr} {ccd : Value} {cl : List (Str × Addr)} {outer : List Env} {A₀ : Around} {base h₀ : Heap} {L : Addr} {m mg mb : Str → Option Value} {p : Program} {loose : List Str} {mean : ExcName → Option Value} {s : Shared} {Q E : Value → Shared → Prop} {news : List (Addr × Obj)}
theorem get_token_read {G : LexG} {ln : Int} {t5 : Tok} {svs : List Value} {k pk : Nat} {own : List (Addr × Obj)} {chs : List Nat} {T : List Nat × List Nat} (hT : T = lexO G.ws.cps.toList chs)
  (B : Below A₀ base outer h₀) (F : Fr h₀ L s.heap m) (X : (Mine.hdm.heap_1 w.params).In h₀) (N : News h₀ L s.heap news) (T₀ : Top p loose mean mg mb h₀) (hk : cs.kind = .function) (hd : dp + 20 < recursionLimit)
  (O : LexOk PySem.Challenge.pw_pg0318_03 w (Mine.hdm.heap_1 w.params) p loose mean mg mb G own) (hpb : @LT.lt Nat _ G.sg G.pb ∧ @LT.lt Nat _ G.d G.pb)
  (hsub : ∀ q ∈ lexLed w.params G ln t5 svs k ((G.pb, W.listOf #[] pk) :: own), q ∈ news) (hsv : SgAre svs chs) (hlen : chs.length ≤ 1000)
  (ret : ∀ tk h' tk' svs' k' ln' t5', Fr h₀ L h' m → Keeps [G.d, G.sg] s.heap h' → News h₀ L h' [(G.d, lexDict w.params G.ws ln' G.st G.pb G.t1 G.t2 G.t3 G.t4 t5' G.t6), (G.sg, W.listOf svs'.toArray k')] → SgAre svs' T.2 → Q (.str (stOf T.1) tk) {s with heap := h', toks := tk'}) :
  wpAny (model PySem.Challenge.pw_pg0318_03 w) (ktrTop dp un gd cn cs L a ccd cl outer) (call (.ref 132) [.ref G.x]) Q E s := by
  refine wpAny_call ?_
  have hO := O.lt
  have fin : ∀ {g h' : Heap} {L' : Addr} {m' : Str → Option Value} {news' : List (Addr × Obj)} {I b : Addr} {t0 : Tok} {e : Bool} {chs' acc : List Nat} {tk tk' : Nat}, Keeps ((lexLed w.params G ln t5 svs k ((G.pb, W.listOf #[] pk) :: own)).map (·.1)) s.heap g → Fr g L' h' m' → News g L' h' news' → AtIt w.params G I b t0 ((G.pb, W.listOf #[] pk) :: own) e chs' news' → T = (acc, chs') → Q (.str (stOf acc) tk) {s with heap := h', toks := tk'} := by
    rintro g h' L' m' _ I b t0 e chs' acc tk tk' hgk F' N' ⟨ln', t5', svs', k', rfl, S', _, _⟩ rfl
    obtain ⟨F'', K'', N''⟩ := leave_S [G.d, G.sg] F N hsub hgk F' N' fun q hq => by
      simp only [List.mem_cons, List.not_mem_nil, or_false] at hq ⊢
      rcases hq with h | h | h | h | h | h | h
      · exact .inl (.inl h)
      · exact .inr (.inl (congrArg (·.1) h))
      · exact .inl (.inr (.inr (.inl h)))
      · exact .inl (.inr (.inr (.inr (.inl h))))
      · exact .inr (.inr (congrArg (·.1) h))
      · exact .inl (.inr (.inr (.inr (.inr (.inr (.inr (.inr (.inl h))))))))
      · exact .inl (.inr (.inr (.inr (.inr (.inr (.inr (.inr (.inr h))))))))
    exact ret tk h' tk' svs' k' ln' t5' F'' K'' (News.sub N'' (sub_cons (.tail _ (.head _)) (sub_cons (.tail _ (.tail _ (.tail _ (.tail _ (.head _))))) sub_nil))) S'
  have N₁ := News.sub N hsub
  ktr_enter
  intro g L' h₂ hgs hgk hgn F₂ N₂ B₂ X₂ T₂
  clear hgs hgn B N₁
  change Fr g L' h₂ (mput "self" (some (.ref G.x)) mnil) at F₂
  try dsimp only
  k_fold
  try (refine Mine.set_walk ?_; intro A₉ e₉)
  k_steps
  rename News _ _ _ _ => Nn
  rename Fr _ _ _ _ => Fn
  have O2 : LexOk PySem.Challenge.pw_pg0318_03 w (Mine.hdm.heap_1 w.params) p loose mean mg mb G ((G.pb, W.listOf #[] pk) :: own) := ⟨O.reads.mono fun q hq => .tail _ hq, .tail _ O.rf, O.dict, List.forall_mem_cons.mpr ⟨fun r hr => by
    simp only [List.mem_cons, List.not_mem_nil, or_false] at hr
    rcases hr with rfl | rfl <;> (refine neN ?_; dsimp only; omega), O.off⟩, O.lt⟩
  rename_i tkb0 hX0 q0 hY0 l10 I0 hZ0 l20 hW0
  refine' Mine.ci_J2 (fun I => OJ G.ws.cps.toList T G.x I) B₂ Fn X₂ Nn T₂ ?hk ?hd O2 ?hI ?hb ?hIb ?hIo hsv hlen ?hj ?turn ?done ?ht
  case hk => rfl
  case ht => intro _ _; rfl
  case hd => ktr_room
  case hI => omega
  case hb => omega
  case hIb => omega
  case hIo => exact ⟨by omega, (‹_ ∧ _ ∧ _ ∧ _ ∧ _ ∧ _ ∧ _ ∧ AllLt _ own›).2.2.2.2.2.2.2⟩
  case hj => exact ⟨none, [], _, mext ["ch", "fiter", "token", "self"] ⟨rfl, rfl, rfl, rfl, trivial⟩ (by intro y hy; simp only [Off] at hy; simp [getMap, mput, mnil, hy]), by simpa using hlen, .inl ⟨rfl, hT⟩⟩
  case done =>
    rintro m₁ news₁ h tk ⟨vch, acc, tt, rfl, hl, hT'⟩ F₃ N₃ A₃
    clear Fn Nn
    k_steps
    rename Fr _ _ _ _ => Fz
    rename News _ _ _ _ => Nz
    refine fin hgk Fz Nz A₃ ?_
    rcases hT' with ⟨rfl, h⟩ | ⟨_, h⟩
    · rw [h, lexO]
    · exact h
  case turn =>
    rintro c r u m₁ news₁ h tk ⟨vch, acc, tt, rfl, hl, hT'⟩ F₃ N₃ ⟨ln', t5', svs', k', rfl, hsv', hend', hlen'⟩
    clear Fn Nn
    have ho := O.off
    rcases hT' with ⟨rfl, hT1⟩ | ⟨h9, _⟩
    rotate_left
    · exact nomatch h9
    have hh1 := head_len r
    have hh2 := tail_take r
    simp only [List.length_nil, Nat.zero_add, List.length_cons] at hl
    k_steps
    refine IfAt.go ?_
    k_steps
    · have e1 := occ_no ‹_›
      obtain rfl : c = 34 := ch_is (x := "\"") (by decide +kernel) ‹_›
      rename Fr _ _ _ _ => Fn
      rename News _ _ _ _ => Nn
      refine' Mine.ci_J3 (fun I => QJ T G.x I) B₂ Fn X₂ Nn T₂ ?hk ?hd O2 ?hI ?hb ?hIb ?hIo hsv' hlen' ?hj ?turn ?done ?ht
      case hk => rfl
      case ht => intro _ _; rfl
      case hd => ktr_room
      case hI => omega
      case hb => omega
      case hIb => omega
      case hIo => exact ⟨by omega, (‹_ ∧ _ ∧ _ ∧ _ ∧ _ ∧ _ ∧ _ ∧ AllLt _ own›).2.2.2.2.2.2.2⟩
      case hj => exact ⟨_, [], _, mext ["ch", "fiter", "token", "self"] ⟨rfl, rfl, rfl, rfl, trivial⟩ (by intro y hy; simp only [Off] at hy; simp [getMap, mput, mnil, hy]), by simpa using hlen', by rw [hT1, lexO_q e1]⟩
      case done =>
        rintro m₁ news₁ h tk ⟨vch, acc, tt, rfl, hl, hT'⟩ F₃ N₃ A9
        obtain ⟨ln9, t9, svs9, k9, rfl, hsv9, hend9, hlen9⟩ := id A9
        clear Fn Nn
        k_steps
        rename Fr _ _ _ _ => Fz
        rename News _ _ _ _ => Nz
        exact CEnd.intro true Fz Nz hsv9 hend9 (Nat.zero_le _) hlen' ⟨_, acc, _, mext ["ch", "fiter", "token", "self"] ⟨rfl, rfl, rfl, rfl, trivial⟩ (by intro y hy; simp only [Off] at hy; simp [getMap, mput, mnil, hy]), hl, .inr ⟨rfl, hT'⟩⟩
      case turn =>
        rintro c r' u m₁ news₁ h tk ⟨vch, acc, tt, rfl, hl, hT'⟩ F₃ N₃ A9
        obtain ⟨ln9, t9, svs9, k9, rfl, hsv9, hend9, hlen9⟩ := id A9
        clear Fn Nn
        have hh1 := head_len r'
        have hh2 := tail_take r'
        simp only [List.length_cons] at hl
        k_steps
        · obtain rfl : c = 34 := ch_is (x := "\"") (by decide +kernel) ‹_›
          rename Fr _ _ _ _ => Fz
          rename News _ _ _ _ => Nz
          exact fin hgk Fz Nz A9 (by rw [hT', lexQ_q])
        refine IfAt.go ?_
        k_steps
        · obtain rfl : c = 92 := ch_is (x := "\\") (by decide +kernel) ‹_›
          rename Fr _ _ _ _ => Fz
          rename News _ _ _ _ => Nz
          refine CEnd.intro false Fz Nz (by assumption) (fun e => nomatch e) ?_ hlen9 ⟨_, acc ++ r'.take 1, _, (by rw [st_head]; exact mext ["ch", "fiter", "token", "self"] ⟨rfl, rfl, rfl, rfl, trivial⟩ (by intro y hy; simp only [Off] at hy; simp [getMap, mput, mnil, hy])), by rw [List.length_append]; omega, by rw [hT', lexQ_e]⟩
          omega
        · have e2 := ch_not (x := "\"") (k := 34) (by decide +kernel) ‹_›
          have e3 := ch_not (x := "\\") (k := 92) (by decide +kernel) ‹_›
          rename Fr _ _ _ _ => Fz
          rename News _ _ _ _ => Nz
          refine CEnd.intro false Fz Nz hsv9 hend9 (Nat.le_refl _) hlen9 ⟨_, acc ++ [c], _, (by rw [st_one]; exact mext ["ch", "fiter", "token", "self"] ⟨rfl, rfl, rfl, rfl, trivial⟩ (by intro y hy; simp only [Off] at hy; simp [getMap, mput, mnil, hy])), by rw [List.length_append, List.length_singleton]; omega, by rw [hT', lexQ_o e2 e3]⟩
    · have e1 := occ_no ‹_›
      have e2 := ch_not (x := "\"") (k := 34) (by decide +kernel) ‹_›
      refine' IfAt.cutS (GetCut w.params g L' G ((G.pb, W.listOf #[] pk) :: own) T r.length I0 q0 (tkb0 + 1 + 1 + 1) tt) ?cut ?rest
      case cut =>
        refine IfAt.go ?_
        k_steps
        · obtain rfl : c = 92 := ch_is (x := "\\") (by decide +kernel) ‹_›
          rename Fr _ _ _ _ => Fz
          rename News _ _ _ _ => Nz
          exact ⟨_, _, r.take 1, _, _, _, _, _, _, rfl, rfl, Fr.eq Fz (by rw [st_hd]; exact mext ["ch", "fiter", "token", "self"] ⟨rfl, rfl, rfl, rfl, trivial⟩ (by intro y hy; simp only [Off] at hy; simp [getMap, mput, mnil, hy])), Nz, by assumption, by omega, by omega, by rw [hT1, lexO_e e1]⟩
        · have e3 := ch_not (x := "\\") (k := 92) (by decide +kernel) ‹_›
          rename Fr _ _ _ _ => Fz
          rename News _ _ _ _ => Nz
          exact ⟨_, _, [c], _, _, _, _, _, _, rfl, rfl, Fr.eq Fz (by exact mext ["ch", "fiter", "token", "self"] ⟨rfl, rfl, rfl, rfl, trivial⟩ (by intro y hy; simp only [Off] at hy; simp [getMap, mput, mnil, hy])), Nz, hsv', by rw [List.length_singleton]; omega, Nat.le_refl _, by rw [hT1, lexO_o e1 e2 e3]⟩
      case rest =>
        rename Fr _ _ _ _ => Fq
        rename News _ _ _ _ => Nq
        rintro f s' ⟨h7, tk7, a9, u9, ln7, t7, svs7, k7, r2, rfl, rfl, F7, N7, hsv2, hl9, hl8, hT9⟩
        have hlen2 : r2.length ≤ 1000 := Nat.le_trans hl8 hlen'
        dsimp only
        refine wpAny_execs_cons ?_
        k_steps
        rename Fr _ _ _ _ => Fn
        rename News _ _ _ _ => Nn
        refine' Mine.ci_J3 (fun I => BJ G.ws.cps.toList T G.x I) B₂ Fn X₂ Nn T₂ ?hk ?hd O2 ?hI ?hb ?hIb ?hIo hsv2 hlen2 ?hj ?turn ?done ?ht
        case hk => rfl
        case ht => intro _ _; rfl
        case hd => ktr_room
        case hI => omega
        case hb => omega
        case hIb => omega
        case hIo => exact ⟨by omega, (‹_ ∧ _ ∧ _ ∧ _ ∧ _ ∧ _ ∧ _ ∧ AllLt _ own›).2.2.2.2.2.2.2⟩
        case hj => exact ⟨_, a9, _, (by rw [st_app]; exact mext ["ch", "fiter", "token", "self"] ⟨rfl, rfl, rfl, rfl, trivial⟩ (by intro y hy; simp only [Off] at hy; simp [getMap, mput, mnil, hy])), hl9, hT9⟩
        case done =>
          rintro m₁ news₁ h tk ⟨vch, acc, tt, rfl, hl, hT'⟩ F₃ N₃ A9
          obtain ⟨ln9, t9, svs9, k9, rfl, hsv9, hend9, hlen9⟩ := id A9
          clear Fn Nn
          k_steps
          rename Fr _ _ _ _ => Fz
          rename News _ _ _ _ => Nz
          exact CEnd.intro true Fz Nz hsv9 hend9 (Nat.zero_le _) hlen' ⟨_, acc, _, mext ["ch", "fiter", "token", "self"] ⟨rfl, rfl, rfl, rfl, trivial⟩ (by intro y hy; simp only [Off] at hy; simp [getMap, mput, mnil, hy]), hl, .inr ⟨rfl, hT'⟩⟩
        case turn =>
          rintro c r' u m₁ news₁ h tk ⟨vch, acc, tt, rfl, hl, hT'⟩ F₃ N₃ A9
          obtain ⟨ln9, t9, svs9, k9, rfl, hsv9, hend9, hlen9⟩ := id A9
          clear Fn Nn
          have hh1 := head_len r'
          have hh2 := tail_take r'
          simp only [List.length_cons] at hl
          k_steps
          · refine IfAt.go ?_
            k_steps
            · have e2 := occ_no ‹_›
              obtain rfl : c = 92 := ch_is (x := "\\") (by decide +kernel) ‹_›
              rename Fr _ _ _ _ => Fz
              rename News _ _ _ _ => Nz
              refine CEnd.intro (J := BJ G.ws.cps.toList T G.x _) false Fz Nz (by assumption) (fun e => nomatch e) ?_ hlen9 ⟨_, acc ++ r'.take 1, _, (by rw [st_head]; exact mext ["ch", "fiter", "token", "self"] ⟨rfl, rfl, rfl, rfl, trivial⟩ (by intro y hy; simp only [Off] at hy; simp [getMap, mput, mnil, hy])), by rw [List.length_append]; omega, by rw [hT', lexB_e e2]⟩
              omega
            · have e2 := occ_no (c := c) ‹_›
              have e3 := ch_not (x := "\\") (k := 92) (by decide +kernel) ‹(({ cps := #[c] } : Str) == _) = false›
              rename Fr _ _ _ _ => Fz
              rename News _ _ _ _ => Nz
              exact CEnd.intro (J := BJ G.ws.cps.toList T G.x _) false Fz Nz hsv9 hend9 (Nat.le_refl _) hlen9 ⟨_, acc ++ [c], _, (by rw [st_one]; exact mext ["ch", "fiter", "token", "self"] ⟨rfl, rfl, rfl, rfl, trivial⟩ (by intro y hy; simp only [Off] at hy; simp [getMap, mput, mnil, hy])), by rw [List.length_append, List.length_singleton]; omega, by rw [hT', lexB_o e2 e3]⟩
          · have e2 := occ_yes ‹_›
            rename Fr _ _ _ _ => Fz
            rename News _ _ _ _ => Nz
            exact fin hgk Fz Nz A9 (by rw [hT', lexB_w e2])
    · rename Fr _ _ _ _ => Fz
      rename News _ _ _ _ => Nz
      have e1 := occ_yes ‹_›
      exact CEnd.intro (J := OJ G.ws.cps.toList T G.x _) false Fz Nz hsv' hend' (Nat.le_refl _) hlen' ⟨_, [], _, mext ["ch", "fiter", "token", "self"] ⟨rfl, rfl, rfl, rfl, trivial⟩ (by intro y hy; simp only [Off] at hy; simp [getMap, mput, mnil, hy]), by simpa using hlen', .inl ⟨rfl, by rw [hT1, lexO_w e1]⟩⟩
theorem get_token_readU {G : LexG} {ln : Int} {t5 : Tok} {svs : List Value} {k pk : Nat} {own : List (Addr × Obj)} {chs : List Nat}
  (B : Below A₀ base outer h₀) (F : Fr h₀ L s.heap m) (X : (Mine.hdm.heap_1 w.params).In h₀) (N : News h₀ L s.heap news) (T₀ : Top p loose mean mg mb h₀) (hk : cs.kind = .function) (hd : dp + 20 < recursionLimit)
  (O : LexOk PySem.Challenge.pw_pg0318_03 w (Mine.hdm.heap_1 w.params) p loose mean mg mb G own) (hpb : @LT.lt Nat _ G.sg G.pb ∧ @LT.lt Nat _ G.d G.pb)
  (hsub : ∀ q ∈ lexLed w.params G ln t5 svs k ((G.pb, W.listOf #[] pk) :: own), q ∈ news) (hsv : SgAre svs chs) (hlen : chs.length ≤ 1000)
  (ret : ∀ tk h' tk' svs' k' ln' t5', SgAre svs' (lexO G.ws.cps.toList chs).2 → ∃ news', UpdS [(G.d, lexDict w.params G.ws ln' G.st G.pb G.t1 G.t2 G.t3 G.t4 t5' G.t6), (G.sg, W.listOf svs'.toArray k')] news news' ∧ (Fr h₀ L h' m → News h₀ L h' news' → Q (.str (stOf (lexO G.ws.cps.toList chs).1) tk) {s with heap := h', toks := tk'})) :
  wpAny (model PySem.Challenge.pw_pg0318_03 w) (ktrTop dp un gd cn cs L a ccd cl outer) (call (.ref 132) [.ref G.x]) Q E s :=
  get_token_read rfl B F X N T₀ hk hd O hpb hsub hsv hlen fun tk h' tk' svs' k' ln' t5' F' K' N' S' =>
    let ⟨_, u, r⟩ := ret tk h' tk' svs' k' ln' t5' S'
    r F' (News.updS u N K' N')
end
end Mine

theorem Mine.tt_p_lxi : True := by w_top off; exact trivial
namespace Mine
-- THE LEXER: pushback taken, pushed; made
local macro_rules | `(tactic| walk_at "call builtin:list.pop") => Mine.ln `Mine.pop0_L 4 0 true "AaBaCUDo" none 0 0 "Iabc W"
local macro_rules | `(tactic| walk_at "getMethod ref") => Mine.ln `Mine.getMethod_list 3 0 true "AaBmCf" none 0 0 ""
section
variable {w : World} {dp un : Nat} {gd : Option (List Code)} {cn : Str} {cs : Scope} {a : Addr} {ccd : Value} {cl : List (Str × Addr)} {outer : List Env} {A₀ : Around} {base h₀ : Heap} {L : Addr} {m mg mb : Str → Option Value} {p : Program} {loose : List Str} {mean : ExcName → Option Value} {s : Shared} {Q E : Value → Shared → Prop} {news : List (Addr × Obj)}
theorem get_token_pop {x d st pb : Addr} {ws : Str} {ln : Int} {t1 t2 t3 t4 t5 t6 : Tok} {v : Value} {pvs : List Value} {pk : Nat}
  (B : Below A₀ base outer h₀) (F : Fr h₀ L s.heap m) (X : (Mine.hdm.heap_1 w.params).In h₀) (N : News h₀ L s.heap news) (T₀ : Top p loose mean mg mb h₀) (hk : cs.kind = .function) (hd : dp + 20 < recursionLimit)
  (hlt : @LT.lt Nat _ d x ∧ @LT.lt Nat _ x pb) (hz : pvs.length ≤ 1000)
  (hsub : ∀ q ∈ [(x, instObj 142 d), (d, lexDict w.params ws ln st pb t1 t2 t3 t4 t5 t6), (pb, W.listOf (v :: pvs).toArray pk)], q ∈ news)
  (ret : ∀ h' tk', Fr h₀ L h' m → Keeps [pb] s.heap h' → News h₀ L h' [(pb, W.listOf pvs.toArray (pk + 1))] → Q v {s with heap := h', toks := tk'}) :
  wpAny (model PySem.Challenge.pw_pg0318_03 w) (ktrTop dp un gd cn cs L a ccd cl outer) (call (.ref 132) [.ref x]) Q E s := by
  refine wpAny_call ?_
  have N₁ := News.sub N hsub
  ktr_enter
  intro g L' h₂ hgs hgk hgn F₂ N₂ B₂ X₂ T₂
  clear hgs hgn B N₁
  change Fr g L' h₂ (mput "self" (some (.ref x)) mnil) at F₂
  try dsimp only
  k_fold
  try (refine Mine.set_walk ?_; intro A₉ e₉)
  k_steps
  rename Fr _ _ _ _ => Fz
  rename News _ _ _ _ => Nz
  obtain ⟨F', K', N'⟩ := leave_S [pb] F N hsub hgk Fz Nz (List.forall_mem_cons.mpr ⟨.inl (by k_mem), List.forall_mem_cons.mpr ⟨.inl (by k_mem), List.forall_mem_cons.mpr ⟨.inr (.head _), List.forall_mem_nil _⟩⟩⟩)
  exact ret _ _ F' K' (News.sub N' (sub_cons (by k_mem) sub_nil))
theorem push_token {x d st pb : Addr} {ws : Str} {ln : Int} {t1 t2 t3 t4 t5 t6 : Tok} {v : Value} {pvs : List Value} {pk : Nat}
  (B : Below A₀ base outer h₀) (F : Fr h₀ L s.heap m) (X : (Mine.hdm.heap_1 w.params).In h₀) (N : News h₀ L s.heap news) (T₀ : Top p loose mean mg mb h₀) (hk : cs.kind = .function) (hd : dp + 20 < recursionLimit)
  (hlt : @LT.lt Nat _ d x ∧ @LT.lt Nat _ x pb) (hz : pvs.length ≤ 1000)
  (hsub : ∀ q ∈ [(x, instObj 142 d), (d, lexDict w.params ws ln st pb t1 t2 t3 t4 t5 t6), (pb, W.listOf pvs.toArray pk)], q ∈ news)
  (ret : ∀ h' tk', Fr h₀ L h' m → Keeps [pb] s.heap h' → News h₀ L h' [(pb, W.listOf (pvs ++ [v]).toArray (pk + 1))] → Q .none {s with heap := h', toks := tk'}) :
  wpAny (model PySem.Challenge.pw_pg0318_03 w) (ktrTop dp un gd cn cs L a ccd cl outer) (call (.ref 139) [.ref x, v]) Q E s := by
  refine wpAny_call ?_
  have N₁ := News.sub N hsub
  have hz2 : pvs.toArray.size ≤ 1000 := by rw [List.size_toArray]; exact hz
  ktr_enter
  intro g L' h₂ hgs hgk hgn F₂ N₂ B₂ X₂ T₂
  clear hgs hgn B N₁
  change Fr g L' h₂ (mput "token" (some v) (mput "self" (some (.ref x)) mnil)) at F₂
  try dsimp only
  k_fold
  try (refine Mine.set_walk ?_; intro A₉ e₉)
  k_steps
  rename Fr _ _ _ _ => Fz
  rename News _ _ _ _ => Nz
  rw [List.push_toArray] at Nz
  obtain ⟨F', K', N'⟩ := leave_S [pb] F N hsub hgk Fz Nz (List.forall_mem_cons.mpr ⟨.inl (by k_mem), List.forall_mem_cons.mpr ⟨.inl (by k_mem), List.forall_mem_cons.mpr ⟨.inr (.head _), List.forall_mem_nil _⟩⟩⟩)
  exact ret _ _ F' K' (News.sub N' (sub_cons (by k_mem) sub_nil))
-- the same, for a ledger in any order
theorem get_token_popU {x d st pb : Addr} {ws : Str} {ln : Int} {t1 t2 t3 t4 t5 t6 : Tok} {v : Value} {pvs : List Value} {pk : Nat}
  (B : Below A₀ base outer h₀) (F : Fr h₀ L s.heap m) (X : (Mine.hdm.heap_1 w.params).In h₀) (N : News h₀ L s.heap news) (T₀ : Top p loose mean mg mb h₀) (hk : cs.kind = .function) (hd : dp + 20 < recursionLimit)
  (hlt : @LT.lt Nat _ d x ∧ @LT.lt Nat _ x pb) (hz : pvs.length ≤ 1000)
  (m1 : (x, instObj 142 d) ∈ news) (m2 : (d, lexDict w.params ws ln st pb t1 t2 t3 t4 t5 t6) ∈ news) (m3 : (pb, W.listOf (v :: pvs).toArray pk) ∈ news)
  (ret : ∀ h' tk', ∃ news', UpdS [(pb, W.listOf pvs.toArray (pk + 1))] news news' ∧ (Fr h₀ L h' m → News h₀ L h' news' → Q v {s with heap := h', toks := tk'})) :
  wpAny (model PySem.Challenge.pw_pg0318_03 w) (ktrTop dp un gd cn cs L a ccd cl outer) (call (.ref 132) [.ref x]) Q E s :=
  get_token_pop B F X N T₀ hk hd hlt hz (sub_cons m1 (sub_cons m2 (sub_cons m3 sub_nil))) fun h' tk' F' K' N' =>
    let ⟨_, u, r⟩ := ret h' tk'
    r F' (News.updS u N K' N')
theorem push_tokenU {x d st pb : Addr} {ws : Str} {ln : Int} {t1 t2 t3 t4 t5 t6 : Tok} {v : Value} {pvs : List Value} {pk : Nat}
  (B : Below A₀ base outer h₀) (F : Fr h₀ L s.heap m) (X : (Mine.hdm.heap_1 w.params).In h₀) (N : News h₀ L s.heap news) (T₀ : Top p loose mean mg mb h₀) (hk : cs.kind = .function) (hd : dp + 20 < recursionLimit)
  (hlt : @LT.lt Nat _ d x ∧ @LT.lt Nat _ x pb) (hz : pvs.length ≤ 1000)
  (m1 : (x, instObj 142 d) ∈ news) (m2 : (d, lexDict w.params ws ln st pb t1 t2 t3 t4 t5 t6) ∈ news) (m3 : (pb, W.listOf pvs.toArray pk) ∈ news)
  (ret : ∀ h' tk', ∃ news', UpdS [(pb, W.listOf (pvs ++ [v]).toArray (pk + 1))] news news' ∧ (Fr h₀ L h' m → News h₀ L h' news' → Q .none {s with heap := h', toks := tk'})) :
  wpAny (model PySem.Challenge.pw_pg0318_03 w) (ktrTop dp un gd cn cs L a ccd cl outer) (call (.ref 139) [.ref x, v]) Q E s :=
  push_token B F X N T₀ hk hd hlt hz (sub_cons m1 (sub_cons m2 (sub_cons m3 sub_nil))) fun h' tk' F' K' N' =>
    let ⟨_, u, r⟩ := ret h' tk'
    r F' (News.updS u N K' N')
end
end Mine

theorem Mine.tt_p_lxm : True := by w_top off; exact trivial
namespace Mine
-- THE LEXER: made
section
variable {w : World} {dp un : Nat} {gd : Option (List Code)} {cn : Str} {cs : Scope} {a : Addr} {ccd : Value} {cl : List (Str × Addr)} {outer : List Env} {A₀ : Around} {base h₀ : Heap} {L : Addr} {m mg mb : Str → Option Value} {p : Program} {loose : List Str} {mean : ExcName → Option Value} {s : Shared} {Q E : Value → Shared → Prop} {news : List (Addr × Obj)}
theorem lex_make {st : Addr} (B : Below A₀ base outer h₀) (F : Fr h₀ L s.heap m) (X : (Mine.hdm.heap_1 w.params).In h₀) (N : News h₀ L s.heap news) (T : Top p loose mean mg mb h₀) (hk : cs.kind = .function) (hd : dp + 20 < recursionLimit)
  (ret : ∀ x d pb t1 t2 t3 t4 t5 t6 h' tk', Fr h₀ L h' m → News h₀ L h' ((pb, W.listOf ([] : List Value).toArray 0) :: (x, instObj 142 d) :: (d, lexDict w.params "\n\t\r " 1 st pb t1 t2 t3 t4 t5 t6) :: news) → (∀ p ∈ news, p.1 < d) → d < x → x < pb → Q (.ref x) {s with heap := h', toks := tk'}) :
  wpAny (model PySem.Challenge.pw_pg0318_03 w) (ktrTop dp un gd cn cs L a ccd cl outer) (call (.ref 142) [.ref st]) Q E s := by
  refine' call_cls ?k1 ?k2 ?k3 ?k4 ?k5 ?k6 ?_; (case k1 => k_asm); (case k2 => k_asm); (case k3 => k_asm); (case k4 => k_is); (case k5 => k_is); (case k6 => k_is)
  intro x d h₁ F₁ Nall l1 l2
  have N₁ : News h₀ L h₁ [(x, instObj 142 d), (d, dictOf [] 0)] := News.sub Nall (sub_cons (.head _) (sub_cons (.tail _ (.head _)) sub_nil))
  have N₀ : News h₀ L h₁ news := News.sub Nall fun p hp => .tail _ (.tail _ hp)
  have hbk : ∀ {g h' : Heap} {L' pb : Addr} {m' : Str → Option Value} {t1 t2 t3 t4 t5 t6 tk' : Nat}, Keeps [x, d] h₁ g → Fr g L' h' m' →
      News g L' h' [(pb, W.listOf ([] : List Value).toArray 0), (x, instObj 142 d), (d, lexDict w.params "\n\t\r " 1 st pb t1 t2 t3 t4 t5 t6)] → @LT.lt Nat _ x pb → Q (.ref x) {s with heap := h', toks := tk'} := by
    intro g h' L' pb m' t1 t2 t3 t4 t5 t6 tk' hgk F' N' hx
    obtain ⟨F'', N'', hk⟩ := leave F₁ N₁ hgk F' N'
    have N3 : News h₀ L h' news := News.off N₀ hk fun p hp q => by
      have := l1 p hp
      simp only [List.map_cons, List.map_nil, List.mem_cons, List.not_mem_nil, or_false] at q
      rcases q with q | q
      · rw [q] at this; exact Nat.lt_asymm this l2
      · rw [q] at this; exact Nat.lt_irrefl _ this
    exact ret x d pb t1 t2 t3 t4 t5 t6 h' tk' F'' (fun p hp => by
      simp only [List.mem_cons] at hp
      rcases hp with h | h | h | h
      · exact N'' p (h ▸ .head _)
      · exact N'' p (h ▸ .tail _ (.head _))
      · exact N'' p (h ▸ .tail _ (.tail _ (.head _)))
      · exact N3 p h) l1 l2 hx
  clear Nall N₀ l1
  (try k_lt2 l2)
  ktr_enter
  intro g L' h₂ hgs hgk hgn F₂ N₂ B₂ X₂ T₂
  clear hgs hgn B N
  try dsimp only
  change Fr g L' h₂ (mput "fp" (some (.ref st)) (mput "self" (some (.ref x)) mnil)) at F₂
  k_fold
  try (refine Mine.set_walk ?_; intro A₉ e₉)
  k_steps
  rename Fr _ _ _ _ => Fz
  rename News _ _ _ _ => Nz
  refine ⟨rfl, ?_⟩
  exact hbk hgk Fz Nz (by omega)
end
end Mine

theorem Mine.tt_p_hd : True := by w_top off; exact trivial
namespace Mine
local macro_rules | `(tactic| walk_at "zz") => `(tactic| fail)
-- HEADERS
section
variable {w : World} {A : Around} {E : Value → Shared → Prop} {s : Shared} {h₀ : Heap} {L : Addr} {m : Str → Option Value}
theorem pat_name {x : Str} {t : Tok} {Q : Value → Shared → Prop} (F : Fr h₀ L s.heap m) (X : (Mine.hdm.heap_1 w.params).In h₀) (h : ∀ c ∈ x.cps.toList, okN c = true) (hl : x.length ≤ 1000) (hq : Q .none s) : wpAny (model PySem.Challenge.pw_pg0318_03 w) A (call (.builtin "re.Pattern.search") [.ref 151, .str x t]) Q E s :=
  sre_search codeN (F.keep _ _ (X 151 _ rfl)) (F.keep _ _ (X 150 _ rfl)) (by decide +kernel) (by decide +kernel) (none_of okN (fun _ => setN) h) (by omega) hq
theorem pat_value {x : Str} {t : Tok} {Q : Value → Shared → Prop} (F : Fr h₀ L s.heap m) (X : (Mine.hdm.heap_1 w.params).In h₀) (h : ∀ c ∈ x.cps.toList, okV c = true) (hl : x.length ≤ 1000) (hq : Q .none s) : wpAny (model PySem.Challenge.pw_pg0318_03 w) A (call (.builtin "re.Pattern.search") [.ref 156, .str x t]) Q E s :=
  sre_search codeV (F.keep _ _ (X 156 _ rfl)) (F.keep _ _ (X 155 _ rfl)) (by decide +kernel) (by decide +kernel) (none_of okV (fun _ => setV) h) (by omega) hq
theorem pat_meth_n {pl : Sem Bool} {Q : Value × List Value → Shared → Prop} (F : Fr h₀ L s.heap m) (X : (Mine.hdm.heap_1 w.params).In h₀) (hq : Q (.builtin "re.Pattern.search", [.ref 151]) s) : wpAny (model PySem.Challenge.pw_pg0318_03 w) A (getMethod (.ref 151) "search" pl) Q E s :=
  getMethod_pat (F.keep _ _ (X 151 _ rfl)) rfl rfl hq
theorem pat_meth_v {pl : Sem Bool} {Q : Value × List Value → Shared → Prop} (F : Fr h₀ L s.heap m) (X : (Mine.hdm.heap_1 w.params).In h₀) (hq : Q (.builtin "re.Pattern.search", [.ref 156]) s) : wpAny (model PySem.Challenge.pw_pg0318_03 w) A (getMethod (.ref 156) "search" pl) Q E s :=
  getMethod_pat (F.keep _ _ (X 156 _ rfl)) rfl rfl hq
end
local macro_rules | `(tactic| walk_at "getMethod ref") => `(tactic| (k_here; k_dflt (first | (refine' Mine.pat_meth_n ?k1 ?k2 ?_; (case k1 => k_asm); (case k2 => k_asm)) | (refine' Mine.pat_meth_v ?k1 ?k2 ?_; (case k1 => k_asm); (case k2 => k_asm))); k_whole))
local macro_rules | `(tactic| walk_at "call builtin:re.Pattern.search") => `(tactic| (k_here; k_dflt (first | (refine' Mine.pat_name ?k1 ?k2 ?k3 ?k4 ?_; (case k1 => k_asm); (case k2 => k_asm); (case k3 => assumption); (case k4 => assumption)) | (refine' Mine.pat_value ?k1 ?k2 ?k3 ?k4 ?_; (case k1 => k_asm); (case k2 => k_asm); (case k3 => assumption); (case k4 => assumption))); k_whole))
section
variable {w : World} {dp un : Nat} {gd : Option (List Code)} {cn : Str} {cs : Scope} {a : Addr} {ccd : Value} {cl : List (Str × Addr)} {outer : List Env} {A₀ : Around} {base h₀ : Heap} {L : Addr} {m mg mb : Str → Option Value} {p : Program} {loose : List Str} {mean : ExcName → Option Value} {s : Shared} {Q E : Value → Shared → Prop} {news : List (Addr × Obj)}
theorem conv_name {x : Addr} {v : Str} {t : Tok}
  (B : Below A₀ base outer h₀) (F : Fr h₀ L s.heap m) (X : (Mine.hdm.heap_1 w.params).In h₀) (N : News h₀ L s.heap news) (T₀ : Top p loose mean mg mb h₀) (hk : cs.kind = .function) (hd : dp + 5 < recursionLimit)
  (hok : ∀ c ∈ v.cps.toList, okN c = true) (hl : v.length ≤ 1000)
  (ret : ∀ h' tk', Fr h₀ L h' m → News h₀ L h' news → Q (.str v t) {s with heap := h', toks := tk'}) :
  wpAny (model PySem.Challenge.pw_pg0318_03 w) (ktrTop dp un gd cn cs L a ccd cl outer) (call (.ref 178) [.ref x, .str v t] [("name", .bool true)]) Q E s := by
  refine wpAny_call ?_
  have N₁ : News h₀ L s.heap [] := News.sub N sub_nil
  ktr_enter
  intro g L' h₂ hgs hgk hgn F₂ N₂ B₂ X₂ T₂
  clear hgs hgn B N₁
  change Fr g L' h₂ (mput "name" (some (.bool true)) (mput "value" (some (.str v t)) (mput "self" (some (.ref x)) mnil))) at F₂
  try dsimp only
  k_fold
  try (refine Mine.set_walk ?_; intro A₉ e₉)
  k_steps
  rename Fr _ _ _ _ => Fz
  rename News _ _ _ _ => Nz
  obtain ⟨F', N'⟩ := leave_ro F N sub_nil hgk Fz Nz sub_nil
  exact ret _ _ F' N'
theorem conv_value {x : Addr} {v : Str} {t : Tok}
  (B : Below A₀ base outer h₀) (F : Fr h₀ L s.heap m) (X : (Mine.hdm.heap_1 w.params).In h₀) (N : News h₀ L s.heap news) (T₀ : Top p loose mean mg mb h₀) (hk : cs.kind = .function) (hd : dp + 5 < recursionLimit)
  (hok : ∀ c ∈ v.cps.toList, okV c = true) (hl : v.length ≤ 1000)
  (ret : ∀ h' tk', Fr h₀ L h' m → News h₀ L h' news → Q (.str v t) {s with heap := h', toks := tk'}) :
  wpAny (model PySem.Challenge.pw_pg0318_03 w) (ktrTop dp un gd cn cs L a ccd cl outer) (call (.ref 178) [.ref x, .str v t] [("name", .bool false)]) Q E s := by
  refine wpAny_call ?_
  have N₁ : News h₀ L s.heap [] := News.sub N sub_nil
  ktr_enter
  intro g L' h₂ hgs hgk hgn F₂ N₂ B₂ X₂ T₂
  clear hgs hgn B N₁
  change Fr g L' h₂ (mput "name" (some (.bool false)) (mput "value" (some (.str v t)) (mput "self" (some (.ref x)) mnil))) at F₂
  try dsimp only
  k_fold
  try (refine Mine.set_walk ?_; intro A₉ e₉)
  k_steps
  rename Fr _ _ _ _ => Fz
  rename News _ _ _ _ => Nz
  obtain ⟨F', N'⟩ := leave_ro F N sub_nil hgk Fz Nz sub_nil
  exact ret _ _ F' N'
end
end Mine

theorem Mine.tt_p_hd2 : True := by w_top off; exact trivial
namespace Mine
-- U-WHOLE
-- HEADERS: its list of pairs
abbrev tup2 (a b : Value) : Obj := { cls := .type "tuple", data := .seq #[a, b] }
inductive PairsIn (led : List (Addr × Obj)) : List Value → List (Str × Str) → Prop where
  | nil : PairsIn led [] []
  | cons {t : Addr} {n v : Str} {tn tv : Tok} {vs : List Value} {ps : List (Str × Str)} : (t, tup2 (.str n tn) (.str v tv)) ∈ led → PairsIn led vs ps → PairsIn led (.ref t :: vs) ((n, v) :: ps)
theorem PairsIn.mono {led led' : List (Addr × Obj)} {vs : List Value} {ps : List (Str × Str)} (h : PairsIn led vs ps) (k : ∀ p ∈ led, p ∈ led') : PairsIn led' vs ps := by
  induction h with
  | nil => exact .nil
  | cons hm _ ih => exact .cons (k _ hm) ih
theorem PairsIn.length {led : List (Addr × Obj)} {vs : List Value} {ps : List (Str × Str)} (h : PairsIn led vs ps) : vs.length = ps.length := by
  induction h with
  | nil => rfl
  | cons _ _ ih => rw [List.length_cons, List.length_cons, ih]
theorem PairsIn.get {led : List (Addr × Obj)} {vs : List Value} {ps : List (Str × Str)} (h : PairsIn led vs ps) : ∀ {i : Nat} {v : Value}, vs[i]? = some v → ∃ t n u tn tu, v = .ref t ∧ ps[i]? = some (n, u) ∧ (t, tup2 (.str n tn) (.str u tu)) ∈ led := by
  induction h with
  | nil => intro i v h; simp at h
  | cons hm _ ih =>
    intro i v h
    cases i with
    | zero => simp at h; exact ⟨_, _, _, _, _, h.symm, rfl, hm⟩
    | succ i => exact ih (by simpa using h)
theorem PairsIn.snoc {led : List (Addr × Obj)} {vs : List Value} {ps : List (Str × Str)} {t : Addr} {n v : Str} {tn tv : Tok} (h : PairsIn led vs ps) (hm : (t, tup2 (.str n tn) (.str v tv)) ∈ led) : PairsIn led (vs ++ [.ref t]) (ps ++ [(n, v)]) := by
  induction h with
  | nil => exact .cons hm .nil
  | cons hm' _ ih => exact .cons hm' ih
theorem take_snoc {α : Type} {ps : List α} {i : Nat} {q : α} (h : ps[i]? = some q) : ps.take (i + 1) = ps.take i ++ [q] := by rw [List.take_add_one, h]; rfl
abbrev hdDict (P : Params) (t : Tok) (hl : Addr) : Obj := dictOf [⟨PyData.keyHash P "_headers", .str "_headers" t, .ref hl⟩] 1
local macro_rules | `(tactic| walk_at "call ref") => Mine.ln `Mine.conv_name 9 0 false "AaBaCaDaEaFkHsIOGr" none 0 0 "Iabcd D F"
local macro_rules | `(tactic| walk_at "call ref") => Mine.ln `Mine.conv_value 9 0 false "AaBaCaDaEaFkHsIOGr" none 0 0 "Iabcd D F"
def SrcAt (P : Prop) : Prop := P
theorem src_stop {P : Prop} (h : SrcAt P) : P := h
local macro_rules | `(tactic| walk_at "CompSrcT") => `(tactic| k_dflt (refine' Mine.src_stop ?_))
local macro_rules | `(tactic| walk_at "eval ListComp") => `(tactic| (k_here; k_dflt (refine LCt.ListComp_T (F₀ := by k_asm) (by with_unfolding_all rfl) (by decide) (by rfl) (by decide) (by rfl) ?_)))
local macro_rules | `(tactic| walk_at "α") => `(tactic| k_ne)
local macro_rules | `(tactic| walk_at "setItem ref ref") => Mine.ln `Mine.setItem_all_K 8 0 false "AaBaCfDmEmFαGoHo" none 0 9 "Iab U Icd D F"
section
variable {w : World} {dp un : Nat} {gd : Option (List Code)} {cn : Str} {cs : Scope} {a : Addr} {ccd : Value} {cl : List (Str × Addr)} {outer : List Env} {A₀ : Around} {base h₀ : Heap} {L : Addr} {m mg mb : Str → Option Value} {p : Program} {loose : List Str} {mean : ExcName → Option Value} {s : Shared} {Q E : Value → Shared → Prop} {news : List (Addr × Obj)}
theorem hd_del {R : Result → Shared → Prop} {x d hl : Addr} {t : Tok} {vs : List Value} {k : Nat} {ps : List (Str × Str)} {tups : List (Addr × Obj)} {name : Str} {tn : Tok}
  (B : Below A₀ base outer h₀) (F : Fr h₀ L s.heap m) (X : (Mine.hdm.heap_1 w.params).In h₀) (N : News h₀ L s.heap news) (T₀ : Top p loose mean mg mb h₀) (hk : cs.kind = .function) (hd : dp + 10 < recursionLimit)
  (hlt : @LT.lt Nat _ d x ∧ @LT.lt Nat _ x hl) (hz : ps.length ≤ 1000) (hp : PairsIn tups vs ps) (hpn : ∀ q ∈ ps, q.1.length ≤ 100) (hto : ∀ q ∈ tups, q.1 ≠ hl)
  (hsub : ∀ q ∈ (x, instObj 279 d) :: (d, hdDict w.params t hl) :: (hl, W.listOf vs.toArray k) :: tups, q ∈ news)
  (hok : ∀ c ∈ (Txt.lower name).cps.toList, okN c = true) (hnl : name.length ≤ 100)
  (ret : ∀ h' tk' vs' k', Fr h₀ L h' m → Keeps [hl] s.heap h' → News h₀ L h' [(hl, W.listOf vs'.toArray k')] → PairsIn tups vs' (ps.filter fun q => Txt.lower q.1 != Txt.lower name) → R (.ok (.ret .none)) {s with heap := h', toks := tk'}) :
  codeAny (model PySem.Challenge.pw_pg0318_03 w) (ktrTop dp un gd cn cs L a ccd cl outer) (.call (.ref 197) ⟨[.ref x, .str name tn], []⟩) R s := by
  have N₁ := News.sub N hsub
  kc_enter
  intro g L' h₂ tk₂ cells hgs hgk hgn F₂ N₂ Y₂ B₂ X₂ T₂ l1
  clear hgs hgn B N₁
  k_lt l1
  obtain ⟨oc, hE, dc⟩ := CellsAre.one Y₂
  subst hE
  clear Y₂
  change oc.data = .cell (some (.str name tn)) at dc
  simp only [List.cons_append, List.nil_append] at N₂
  have ho : OwnOff tups [L' + 1, hl] := fun q hq r hr => by
    have := allLt_mem tups l1.2.2.2 q hq
    simp only [List.mem_cons, List.not_mem_nil, or_false] at hr
    rcases hr with rfl | rfl
    · exact Nat.ne_of_lt (Nat.lt_succ_of_lt this)
    · exact hto q hq
  change Fr g L' h₂ (mput "self" (some (.ref x)) mnil) at F₂
  try dsimp only
  show wpAny _ _ _ _ _ _
  k_fold
  try (refine Mine.set_walk ?_; intro A₉ e₉)
  k_steps
  rename Fr _ _ _ _ => Fn
  rename News _ _ _ _ => Nn
  unfold Mine.SrcAt
  refine' Mine.srcT_L (fun _ i ys => PairsIn tups ys ((ps.take i).filter fun q => Txt.lower q.1 != Txt.lower name)) rfl Fn Nn (by k_mem) (by have := hp.length; omega) .nil ?step ?fin
  case step =>
    intro i ys v I oI C oC D m₂ h tk E' hv hJ hC hx F N off ne
    obtain ⟨t9, n9, u9, tn9, tu9, rfl, hps, hmt⟩ := hp.get hv
    have hn9 := hpn _ (List.mem_of_getElem? hps)
    clear Fn Nn
    k_steps
    · refine CmpEnd.intro _ F N sub_self off ⟨rfl, ?_⟩
      rw [take_snoc hps, List.filter_append, List.filter_cons_of_pos (by assumption), List.filter_nil]
      exact hJ.snoc hmt
    · refine CmpEnd.intro _ F N sub_self off ⟨rfl, ?_⟩
      rw [take_snoc hps, List.filter_append, List.filter_cons_of_neg (by simp only [Bool.not_eq_true]; assumption), List.filter_nil, List.append_nil]
      exact hJ
  case fin =>
    intro g9 ys hJ
    have hvl := hp.length
    rw [hvl, List.take_length] at hJ
    have hJl := hJ.length
    have hJ2 := List.length_filter_le (fun q : Str × Str => Txt.lower q.1 != Txt.lower name) ps
    clear Fn Nn
    k_steps
    rename Fr _ _ _ _ => Fz
    rename News _ _ _ _ => Nz
    obtain ⟨F', K', N'⟩ := leave_S [hl] F N hsub hgk Fz Nz (List.forall_mem_cons.mpr ⟨.inl (by k_mem), List.forall_mem_cons.mpr ⟨.inl (by k_mem), List.forall_mem_cons.mpr ⟨.inr (.head _), fun q hq => .inl (.tail _ (.tail _ (.tail _ (.tail _ (.tail _ hq)))))⟩⟩⟩)
    exact ret _ _ _ _ F' K' (News.sub N' (sub_cons (by k_mem) sub_nil)) hJ
theorem hd_delU {x d hl : Addr} {t : Tok} {vs : List Value} {k : Nat} {ps : List (Str × Str)} {tups : List (Addr × Obj)} {name : Str} {tn : Tok}
  (B : Below A₀ base outer h₀) (F : Fr h₀ L s.heap m) (X : (Mine.hdm.heap_1 w.params).In h₀) (N : News h₀ L s.heap news) (T₀ : Top p loose mean mg mb h₀) (hk : cs.kind = .function) (hd : dp + 10 < recursionLimit)
  (m1 : (x, instObj 279 d) ∈ news) (m2 : (d, hdDict w.params t hl) ∈ news) (m3 : (hl, W.listOf vs.toArray k) ∈ news) (m4 : ∀ q ∈ tups, q ∈ news)
  (hlt : @LT.lt Nat _ d x ∧ @LT.lt Nat _ x hl) (hz : ps.length ≤ 1000) (hp : PairsIn tups vs ps) (hpn : ∀ q ∈ ps, q.1.length ≤ 100) (hto : ∀ q ∈ tups, q.1 ≠ hl)
  (hok : ∀ c ∈ (Txt.lower name).cps.toList, okN c = true) (hnl : name.length ≤ 100)
  (ret : ∀ h' tk' vs' k', PairsIn tups vs' (ps.filter fun q => Txt.lower q.1 != Txt.lower name) → vs'.length ≤ ps.length → ∃ news', UpdS [(hl, W.listOf vs'.toArray k')] news news' ∧ (Fr h₀ L h' m → News h₀ L h' news' → Q .none {s with heap := h', toks := tk'})) :
  wpAny (model PySem.Challenge.pw_pg0318_03 w) (ktrTop dp un gd cn cs L a ccd cl outer) (call (.ref 197) [.ref x, .str name tn]) Q E s :=
  wpAny_call (hd_del B F X N T₀ hk hd hlt hz hp hpn hto (sub_cons m1 (sub_cons m2 (sub_cons m3 m4))) hok hnl fun h' tk' vs' k' F' K' N' P' =>
    let ⟨_, u, r⟩ := ret h' tk' vs' k' P' (P'.length ▸ List.length_filter_le _ _)
    r F' (News.updS u N K' N'))
end
end Mine

theorem Mine.tt_p_hd3 : True := by w_top off; exact trivial
namespace Mine
-- HEADERS: items, keys
local macro_rules | `(tactic| walk_at "eval ListComp") => `(tactic| (k_here; k_dflt (refine LCp.ListComp_P (F₀ := by k_asm) (by with_unfolding_all rfl) (by decide) (by rfl) (by decide) (by rfl) (by rfl) (by decide) ?_)))
section
variable {w : World} {dp un : Nat} {gd : Option (List Code)} {cn : Str} {cs : Scope} {a : Addr} {ccd : Value} {cl : List (Str × Addr)} {outer : List Env} {A₀ : Around} {base h₀ : Heap} {L : Addr} {m mg mb : Str → Option Value} {p : Program} {loose : List Str} {mean : ExcName → Option Value} {s : Shared} {Q E : Value → Shared → Prop} {news : List (Addr × Obj)}
theorem hd_keys {x d hl : Addr} {t : Tok} {vs : List Value} {k : Nat} {ps : List (Str × Str)} {tups : List (Addr × Obj)}
  (B : Below A₀ base outer h₀) (F : Fr h₀ L s.heap m) (X : (Mine.hdm.heap_1 w.params).In h₀) (N : News h₀ L s.heap news) (T₀ : Top p loose mean mg mb h₀) (hk : cs.kind = .function) (hd : dp + 10 < recursionLimit)
  (hlt : @LT.lt Nat _ d x ∧ @LT.lt Nat _ x hl) (hz : ps.length ≤ 1000) (hp : PairsIn tups vs ps)
  (hsub : ∀ q ∈ (x, instObj 279 d) :: (d, hdDict w.params t hl) :: (hl, W.listOf vs.toArray k) :: tups, q ∈ news)
  (ret : ∀ D h' tk' ks k', Fr h₀ L h' m → News h₀ L h' ((D, W.listOf ks.toArray k') :: news) → StrsAre ks (ps.map (·.1)) → (∀ p ∈ news, p.1 ≠ D) → Q (.ref D) {s with heap := h', toks := tk'}) :
  wpAny (model PySem.Challenge.pw_pg0318_03 w) (ktrTop dp un gd cn cs L a ccd cl outer) (call (.ref 231) [.ref x]) Q E s := by
  refine wpAny_call ?_
  have N₁ := News.sub N hsub
  ktr_enter
  intro g L' h₂ hgs hgk hgn F₂ N₂ B₂ X₂ T₂
  clear hgs hgn B N₁
  change Fr g L' h₂ (mput "self" (some (.ref x)) mnil) at F₂
  try dsimp only
  k_fold
  try (refine Mine.set_walk ?_; intro A₉ e₉)
  k_steps
  rename Fr _ _ _ _ => Fn
  rename News _ _ _ _ => Nn
  refine' Mine.srcP_L (fun _ i ys => StrsAre ys ((ps.take i).map (·.1))) rfl Fn Nn (by k_mem) (by have := hp.length; omega) .nil ?pair ?fin
  case pair =>
    intro i v hv
    obtain ⟨t9, n9, u9, tn9, tu9, rfl, hps, hmt⟩ := hp.get hv
    refine ⟨t9, _, _, rfl, .tail _ (.tail _ (.tail _ hmt)), ?_⟩
    intro ys I oI C oC D m₂ h tk E' hJ hC hx hx2 F N off ne
    clear Fn Nn
    k_steps
    refine CmpEnd.intro _ F N sub_self off ⟨rfl, ?_⟩
    rw [take_snoc hps, List.map_append]
    exact hJ.snoc
  case fin =>
    intro g9 ys hJ
    rw [hp.length, List.take_length] at hJ
    clear Fn Nn
    k_steps
    rename Fr _ _ _ _ => Fz
    rename News _ _ _ _ => Nz
    obtain ⟨F', N'⟩ := leave_ro F N hsub hgk Fz Nz (fun q hq => .tail _ hq)
    obtain ⟨_, N'', _⟩ := leave F (News.sub N hsub) hgk Fz Nz
    exact ret _ _ _ _ _ F' (List.forall_mem_cons.mpr ⟨N'' _ (.head _), N'⟩) hJ (fresh_ne N hgk Nz (.head _) (off1_mem (l := (x, instObj 279 d) :: (d, hdDict w.params t hl) :: (hl, W.listOf vs.toArray k) :: tups) (by assumption)))
theorem hd_items {x d hl : Addr} {t : Tok} {vs : List Value} {k : Nat}
  (B : Below A₀ base outer h₀) (F : Fr h₀ L s.heap m) (X : (Mine.hdm.heap_1 w.params).In h₀) (N : News h₀ L s.heap news) (T₀ : Top p loose mean mg mb h₀) (hk : cs.kind = .function) (hd : dp + 10 < recursionLimit)
  (hlt : @LT.lt Nat _ d x ∧ @LT.lt Nat _ x hl) (hz : vs.length ≤ 1000)
  (hsub : ∀ q ∈ [(x, instObj 279 d), (d, hdDict w.params t hl), (hl, W.listOf vs.toArray k)], q ∈ news)
  (ret : ∀ D h' tk', Fr h₀ L h' m → News h₀ L h' ((D, W.listOf vs.toArray 0) :: news) → (∀ p ∈ news, p.1 ≠ D) → Q (.ref D) {s with heap := h', toks := tk'}) :
  wpAny (model PySem.Challenge.pw_pg0318_03 w) (ktrTop dp un gd cn cs L a ccd cl outer) (call (.ref 243) [.ref x]) Q E s := by
  refine wpAny_call ?_
  have N₁ := News.sub N hsub
  ktr_enter
  intro g L' h₂ hgs hgk hgn F₂ N₂ B₂ X₂ T₂
  clear hgs hgn B N₁
  change Fr g L' h₂ (mput "self" (some (.ref x)) mnil) at F₂
  try dsimp only
  k_fold
  try (refine Mine.set_walk ?_; intro A₉ e₉)
  k_steps
  dsimp only
  rename Fr _ _ _ _ => Fz
  rename News _ _ _ _ => Nz
  rw [slicePick_all] at Nz
  obtain ⟨F', N'⟩ := leave_ro F N hsub hgk Fz Nz (fun q hq => .tail _ hq)
  obtain ⟨_, N'', _⟩ := leave F (News.sub N hsub) hgk Fz Nz
  refine ret _ _ _ F' (List.forall_mem_cons.mpr ⟨N'' _ (.head _), N'⟩) (fresh_ne N hgk Nz (.head _) fun q hq => Nat.ne_of_lt ?_)
  exact Nat.lt_of_lt_of_le (Heap.lt_size (N₂ q hq).1) (Nat.le_succ _)
end
end Mine

theorem Mine.tt_p_hd4 : True := by w_top off; exact trivial
namespace Mine
-- U-WHOLE
-- HEADERS: made, stored into
local macro_rules | `(tactic| walk_at "call ref") => Mine.ln `Mine.conv_name 9 0 false "AaBaCaDaEaFkHsIOGr" none 0 0 "Iabcd D F"
local macro_rules | `(tactic| walk_at "call ref") => Mine.ln `Mine.conv_value 9 0 false "AaBaCaDaEaFkHsIOGr" none 0 0 "Iabcd D F"
local macro_rules | `(tactic| walk_at "call ref") => Mine.ln `Mine.hd_delU 18 0 false "AaBaCaDaEaFkNsHmImJmKSLcMoOsPsQsROGr" none 0 9 "Iabcdef U Igh D F"
section
variable {w : World} {dp un : Nat} {gd : Option (List Code)} {cn : Str} {cs : Scope} {a : Addr} {ccd : Value} {cl : List (Str × Addr)} {outer : List Env} {A₀ : Around} {base h₀ : Heap} {L : Addr} {m mg mb : Str → Option Value} {p : Program} {loose : List Str} {mean : ExcName → Option Value} {s : Shared} {Q E : Value → Shared → Prop} {news : List (Addr × Obj)}
theorem hd_make (B : Below A₀ base outer h₀) (F : Fr h₀ L s.heap m) (X : (Mine.hdm.heap_1 w.params).In h₀) (N : News h₀ L s.heap news) (T : Top p loose mean mg mb h₀) (hk : cs.kind = .function) (hd : dp + 20 < recursionLimit)
  (ret : ∀ x d hl t h' tk', Fr h₀ L h' m → News h₀ L h' ((hl, W.listOf ([] : List Value).toArray 0) :: (x, instObj 279 d) :: (d, hdDict w.params t hl) :: news) → (∀ p ∈ news, p.1 < d) → d < x → x < hl → Q (.ref x) {s with heap := h', toks := tk'}) :
  wpAny (model PySem.Challenge.pw_pg0318_03 w) (ktrTop dp un gd cn cs L a ccd cl outer) (call (.ref 279) []) Q E s := by
  refine' call_cls ?k1 ?k2 ?k3 ?k4 ?k5 ?k6 ?_; (case k1 => k_asm); (case k2 => k_asm); (case k3 => k_asm); (case k4 => k_is); (case k5 => k_is); (case k6 => k_is)
  intro x d h₁ F₁ Nall l1 l2
  have N₁ : News h₀ L h₁ [(x, instObj 279 d), (d, dictOf [] 0)] := News.sub Nall (sub_cons (.head _) (sub_cons (.tail _ (.head _)) sub_nil))
  have N₀ : News h₀ L h₁ news := News.sub Nall fun p hp => .tail _ (.tail _ hp)
  have hbk : ∀ {g h' : Heap} {L' hl : Addr} {m' : Str → Option Value} {t tk' : Nat}, Keeps [x, d] h₁ g → Fr g L' h' m' →
      News g L' h' [(hl, W.listOf ([] : List Value).toArray 0), (x, instObj 279 d), (d, hdDict w.params t hl)] → @LT.lt Nat _ x hl → Q (.ref x) {s with heap := h', toks := tk'} := by
    intro g h' L' hl m' t tk' hgk F' N' hx
    obtain ⟨F'', N'', hk⟩ := leave F₁ N₁ hgk F' N'
    have N3 : News h₀ L h' news := News.off N₀ hk fun p hp q => by
      have := l1 p hp
      simp only [List.map_cons, List.map_nil, List.mem_cons, List.not_mem_nil, or_false] at q
      rcases q with q | q
      · rw [q] at this; exact Nat.lt_asymm this l2
      · rw [q] at this; exact Nat.lt_irrefl _ this
    exact ret x d hl t h' tk' F'' (fun p hp => by
      simp only [List.mem_cons] at hp
      rcases hp with h | h | h | h
      · exact N'' p (h ▸ .head _)
      · exact N'' p (h ▸ .tail _ (.head _))
      · exact N'' p (h ▸ .tail _ (.tail _ (.head _)))
      · exact N3 p h) l1 l2 hx
  clear Nall N₀ l1
  (try k_lt2 l2)
  ktr_enter
  intro g L' h₂ hgs hgk hgn F₂ N₂ B₂ X₂ T₂
  clear hgs hgn B N
  try dsimp only
  change Fr g L' h₂ (mput "headers" (some .none) (mput "self" (some (.ref x)) mnil)) at F₂
  show wpAny _ _ _ _ _ _
  k_fold
  try (refine Mine.set_walk ?_; intro A₉ e₉)
  k_steps
  rename Fr _ _ _ _ => Fz
  rename News _ _ _ _ => Nz
  refine ⟨rfl, ?_⟩
  exact hbk hgk Fz Nz (by omega)
theorem hd_set {x d hl : Addr} {t : Tok} {vs : List Value} {k : Nat} {ps : List (Str × Str)} {tups : List (Addr × Obj)} {name val : Str} {tn tv : Tok}
  (B : Below A₀ base outer h₀) (F : Fr h₀ L s.heap m) (X : (Mine.hdm.heap_1 w.params).In h₀) (N : News h₀ L s.heap news) (T₀ : Top p loose mean mg mb h₀) (hk : cs.kind = .function) (hd : dp + 15 < recursionLimit)
  (hlt : @LT.lt Nat _ d x ∧ @LT.lt Nat _ x hl) (hz : ps.length ≤ 900) (hp : PairsIn tups vs ps) (hpn : ∀ q ∈ ps, q.1.length ≤ 100) (hto : ∀ q ∈ tups, q.1 ≠ hl)
  (hsub : ∀ q ∈ (x, instObj 279 d) :: (d, hdDict w.params t hl) :: (hl, W.listOf vs.toArray k) :: tups, q ∈ news)
  (hok : ∀ c ∈ (Txt.lower name).cps.toList, okN c = true) (hnl : name.length ≤ 100) (hok1 : ∀ c ∈ name.cps.toList, okN c = true) (hok2 : ∀ c ∈ val.cps.toList, okV c = true) (hvl : val.length ≤ 1000)
  (ret : ∀ h' tk' vs' k' tp, Fr h₀ L h' m → Keeps [hl] s.heap h' → News h₀ L h' [(hl, W.listOf vs'.toArray k'), (tp, tup2 (.str name tn) (.str val tv))] → (∀ p ∈ news, p.1 ≠ tp) → PairsIn ((tp, tup2 (.str name tn) (.str val tv)) :: tups) vs' ((ps.filter fun q => Txt.lower q.1 != Txt.lower name) ++ [(name, val)]) → Q .none {s with heap := h', toks := tk'}) :
  wpAny (model PySem.Challenge.pw_pg0318_03 w) (ktrTop dp un gd cn cs L a ccd cl outer) (call (.ref 192) [.ref x, .str name tn, .str val tv]) Q E s := by
  refine wpAny_call ?_
  have N₁ := News.sub N hsub
  ktr_enter
  intro g L' h₂ hgs hgk hgn F₂ N₂ B₂ X₂ T₂
  clear hgs hgn B N₁
  have ho : OwnOff tups [hl] := fun q hq r hr => by rw [List.mem_singleton.mp hr]; exact hto q hq
  change Fr g L' h₂ (mput "val" (some (.str val tv)) (mput "name" (some (.str name tn)) (mput "self" (some (.ref x)) mnil))) at F₂
  try dsimp only
  show wpAny _ _ _ _ _ _
  k_fold
  try (refine Mine.set_walk ?_; intro A₉ e₉)
  k_steps
  rename Fr _ _ _ _ => Fz
  rename News _ _ _ _ => Nz
  rw [List.push_toArray] at Nz
  obtain ⟨F', K', N'⟩ := leave_S [hl] F N hsub hgk Fz Nz (List.forall_mem_cons.mpr ⟨.inl (by k_mem), List.forall_mem_cons.mpr ⟨.inl (by k_mem), List.forall_mem_cons.mpr ⟨.inr (.head _), fun q hq => .inl (.tail _ (.tail _ (.tail _ (.tail _ hq))))⟩⟩⟩)
  refine ret _ _ _ _ _ F' K' (News.sub N' (sub_cons (by k_mem) (sub_cons (by k_mem) sub_nil))) (fresh_ne N hgk Nz (.head _) ?_) (PairsIn.snoc (PairsIn.mono (by assumption) fun q hq => .tail _ hq) (.head _))
  obtain ⟨a1, a2, a3, a4⟩ := ‹_ ∧ _ ∧ _ ∧ AllLt _ tups›
  exact List.forall_mem_cons.mpr ⟨Nat.ne_of_lt a1, List.forall_mem_cons.mpr ⟨Nat.ne_of_lt a2, List.forall_mem_cons.mpr ⟨Nat.ne_of_lt a3, ne_of_allLt a4⟩⟩⟩
theorem hd_setU {x d hl : Addr} {t : Tok} {vs : List Value} {k : Nat} {ps : List (Str × Str)} {tups : List (Addr × Obj)} {name val : Str} {tn tv : Tok}
  (B : Below A₀ base outer h₀) (F : Fr h₀ L s.heap m) (X : (Mine.hdm.heap_1 w.params).In h₀) (N : News h₀ L s.heap news) (T₀ : Top p loose mean mg mb h₀) (hk : cs.kind = .function) (hd : dp + 15 < recursionLimit)
  (m1 : (x, instObj 279 d) ∈ news) (m2 : (d, hdDict w.params t hl) ∈ news) (m3 : (hl, W.listOf vs.toArray k) ∈ news) (m4 : ∀ q ∈ tups, q ∈ news)
  (hlt : @LT.lt Nat _ d x ∧ @LT.lt Nat _ x hl) (hz : ps.length ≤ 900) (hp : PairsIn tups vs ps) (hpn : ∀ q ∈ ps, q.1.length ≤ 100) (hto : ∀ q ∈ tups, q.1 ≠ hl)
  (hok : ∀ c ∈ (Txt.lower name).cps.toList, okN c = true) (hnl : name.length ≤ 100) (hok1 : ∀ c ∈ name.cps.toList, okN c = true) (hok2 : ∀ c ∈ val.cps.toList, okV c = true) (hvl : val.length ≤ 1000)
  (ret : ∀ h' tk' vs' k' tp, PairsIn ((tp, tup2 (.str name tn) (.str val tv)) :: tups) vs' ((ps.filter fun q => Txt.lower q.1 != Txt.lower name) ++ [(name, val)]) → (∀ p ∈ news, p.1 ≠ tp) → ∃ news', UpdS [(hl, W.listOf vs'.toArray k')] news news' ∧ (Fr h₀ L h' m → News h₀ L h' ((tp, tup2 (.str name tn) (.str val tv)) :: news') → Q .none {s with heap := h', toks := tk'})) :
  wpAny (model PySem.Challenge.pw_pg0318_03 w) (ktrTop dp un gd cn cs L a ccd cl outer) (call (.ref 192) [.ref x, .str name tn, .str val tv]) Q E s :=
  hd_set B F X N T₀ hk hd hlt hz hp hpn hto (sub_cons m1 (sub_cons m2 (sub_cons m3 m4))) hok hnl hok1 hok2 hvl fun h' tk' vs' k' tp F' K' N' hne P' =>
    let ⟨_, u, r⟩ := ret h' tk' vs' k' tp P' hne
    r F' (List.forall_mem_cons.mpr ⟨N' _ (.tail _ (.head _)), News.updS u N K' (News.sub N' (sub_cons (.head _) sub_nil))⟩)
end
end Mine

theorem Mine.tt_p_pure3 : True := by w_top off; exact trivial
namespace Mine
-- LAW 03's window, in plain words
abbrev Wd := List Nat × Nat
structure Ent where
  (c : Nat)
  (lead : List Nat)
  (stamp : Nat)
def wsL (l : List Nat) : WsR := wsGo l 0 0 0 []
def lessL (l1 l2 : List Nat) : Bool := lessF (wsL l1) (wsL l2)
def LeadOk (l : List Nat) : Prop := (∀ x ∈ l, x = 32 ∨ x = 9) ∧ l.length ≤ 4
def WdOk (q : Wd) : Prop := LeadOk q.1 ∧ 97 ≤ q.2 ∧ q.2 < 103
def EntOk (e : Ent) : Prop := LeadOk e.lead ∧ 97 ≤ e.c ∧ e.c < 103 ∧ e.stamp < 1000
def wdStr (q : Wd) : Str := stOf (q.1 ++ [q.2])
def stampL (n : Nat) : List Nat := (Str.ofString (toString (n : Int))).cps.toList
def valS (e : Ent) : Str := stOf (e.lead ++ stampL e.stamp)
def entP (e : Ent) : Str × Str := (stOf [e.c], valS e)
abbrev InS := List Ent × List Nat × Bool
def inStep (tk : Nat) (lead : List Nat) (st : InS) (e : Ent) : InS :=
  if e.stamp < tk then (st.1.filter (fun x => x.c != e.c), st.2.1 ++ [e.c], st.2.2)
  else if lessL e.lead lead then (st.1, st.2.1, false)
  else if lessL lead e.lead then (st.1.filter (fun x => x.c != e.c), st.2.1, st.2.2)
  else st
def inF (tk : Nat) (lead : List Nat) (win : List Ent) (told : List Nat) : InS := win.foldl (inStep tk lead) (win, told, true)
structure TS where
  (queue : List Wd)
  (taken pushed : Nat)
  (win : List Ent)
  (told : List Nat)
def outStep (room : Nat) (S : TS) (q : Wd) (qs : List Wd) : TS :=
  let r := inF (S.taken + 1) q.1 S.win S.told
  if r.2.2 = true ∧ r.1.length < room then ⟨qs, S.taken + 1, S.pushed, (r.1.filter fun x => x.c != q.2) ++ [⟨q.2, q.1, S.pushed⟩], r.2.1⟩
  else if r.2.2 = true then ⟨qs ++ [q], S.taken + 1, S.pushed + 1, r.1, r.2.1⟩
  else ⟨qs, S.taken + 1, S.pushed, r.1, r.2.1⟩
structure TOk (S : TS) : Prop where
  q : ∀ w ∈ S.queue, WdOk w
  ql : S.queue.length ≤ 100
  bal : S.pushed = S.taken + S.queue.length
  pu : S.pushed < 1000
  w : ∀ e ∈ S.win, EntOk e
  wl : S.win.length ≤ 20
  t : ∀ c ∈ S.told, 97 ≤ c ∧ c < 103
  tl : S.told.length ≤ 20
inductive RunsN (room : Nat) : Nat → TS → TS → Prop where
  | done {S : TS} : TOk S → S.queue = [] → RunsN room 0 S S
  | step {S F : TS} {q : Wd} {qs : List Wd} {n : Nat} : TOk S → S.queue = q :: qs → RunsN room n (outStep room S q qs) F → RunsN room (n + 1) S F
section
variable {w : World} {dp un : Nat} {gd : Option (List Code)} {cn : Str} {cs : Scope} {a : Addr} {ccd : Value} {cl : List (Str × Addr)} {outer : List Env} {A₀ : Around} {base h₀ : Heap} {L : Addr} {m mg mb : Str → Option Value} {p : Program} {loose : List Str} {mean : ExcName → Option Value} {s : Shared} {Q E : Value → Shared → Prop} {news : List (Addr × Obj)}
theorem ws_callW {ws : Str} {t : Tok} (B : Below A₀ base outer h₀) (F : Fr h₀ L s.heap m) (X : (Mine.hdm.heap_1 w.params).In h₀) (N : News h₀ L s.heap news) (T : Top p loose mean mg mb h₀) (hk : cs.kind = .function) (hd : dp + 5 < recursionLimit) (hu : un + 50 < cLine)
  (hws : ws.length ≤ 100)
  (ret : ∀ x d D D1 (cvs : List Value) t1 t2 t3 t4 t5 t6 t7 t8 h' tk', Fr h₀ L h' m →
    News h₀ L h' ((D, { cls := .type "tuple", data := .seq #[.ref D1, .int ((wsOf ws).2.1 : Int) t6] }) :: (D1, { cls := .type "tuple", data := .seq cvs.toArray }) :: (x, instObj 100 d) :: (d, dictOf [⟨PyData.keyHash w.params "raw", .str "raw" t1, .str ws t⟩, ⟨PyData.keyHash w.params "n", .str "n" t2, .int ((wsOf ws).1 : Int) t7⟩, ⟨PyData.keyHash w.params "nt", .str "nt" t3, .int ((wsOf ws).2.2.1 : Int) t8⟩, ⟨PyData.keyHash w.params "norm", .str "norm" t4, .ref D⟩, ⟨PyData.keyHash w.params "is_simple", .str "is_simple" t5, .bool (decide (((wsOf ws).2.2.2.length : Int) ≤ 1))⟩] 5) :: news) →
    WsIn w.params ((D, { cls := .type "tuple", data := .seq #[.ref D1, .int ((wsOf ws).2.1 : Int) t6] }) :: (D1, { cls := .type "tuple", data := .seq cvs.toArray }) :: (x, instObj 100 d) :: (d, dictOf [⟨PyData.keyHash w.params "raw", .str "raw" t1, .str ws t⟩, ⟨PyData.keyHash w.params "n", .str "n" t2, .int ((wsOf ws).1 : Int) t7⟩, ⟨PyData.keyHash w.params "nt", .str "nt" t3, .int ((wsOf ws).2.2.1 : Int) t8⟩, ⟨PyData.keyHash w.params "norm", .str "norm" t4, .ref D⟩, ⟨PyData.keyHash w.params "is_simple", .str "is_simple" t5, .bool (decide (((wsOf ws).2.2.2.length : Int) ≤ 1))⟩] 5) :: []) x (wsOf ws) →
    (∀ p ∈ news, p.1 < d) → d < x → x < D1 → D1 < D → Q (.ref x) {s with heap := h', toks := tk'}) :
  wpAny (model PySem.Challenge.pw_pg0318_03 w) (ktrTop dp un gd cn cs L a ccd cl outer) (call (.ref 100) [.str ws t]) Q E s :=
  ws_call B F X N T hk hd hu hws fun x d D D1 cvs t1 t2 t3 t4 t5 t6 t7 t8 h' tk' F' N' hi l1 l2 l3 l4 =>
    ret x d D D1 cvs t1 t2 t3 t4 t5 t6 t7 t8 h' tk' F' N' ⟨ws, d, D, D1, cvs, t, t1, t2, t3, t4, t5, t6, t7, t8, .tail _ (.tail _ (.head _)), .tail _ (.tail _ (.tail _ (.head _))), .head _, .tail _ (.head _), hi⟩ l1 l2 l3 l4
end
theorem wsGo_stop {c : Nat} (h1 : c ≠ 32) (h2 : c ≠ 9) (r : List Nat) : ∀ (l : List Nat) (n b nt : Nat) (cns : List Int), (∀ x ∈ l, x = 32 ∨ x = 9) → wsGo (l ++ c :: r) n b nt cns = wsGo l n b nt cns
  | [], n, b, nt, cns, _ => by rw [List.nil_append, wsGo, wsGo, if_neg h1, if_neg h2]
  | x :: l, n, b, nt, cns, h => by
    have hl : ∀ y ∈ l, y = 32 ∨ y = 9 := fun y hy => h y (.tail _ hy)
    rw [List.cons_append, wsGo, wsGo, wsGo_stop h1 h2 r l _ _ _ _ hl, wsGo_stop h1 h2 r l _ _ _ _ hl]
theorem wsGo_n : ∀ (l : List Nat) (n b nt : Nat) (cns : List Int), (∀ x ∈ l, x = 32 ∨ x = 9) → (wsGo l n b nt cns).1 = n + l.length
  | [], _, _, _, _, _ => rfl
  | x :: l, n, b, nt, cns, h => by
    have hl : ∀ y ∈ l, y = 32 ∨ y = 9 := fun y hy => h y (.tail _ hy)
    rw [wsGo]
    rcases h x (.head _) with rfl | rfl
    · rw [if_pos rfl, wsGo_n l _ _ _ _ hl, List.length_cons]; omega
    · rw [if_neg (by decide), if_pos rfl, wsGo_n l _ _ _ _ hl, List.length_cons]; omega
theorem wsGo_b : ∀ (l : List Nat) (n b nt : Nat) (cns : List Int), (wsGo l n b nt cns).2.1 ≤ b + l.length
  | [], _, _, _, _ => Nat.le_refl _
  | x :: l, n, b, nt, cns => by
    rw [wsGo, List.length_cons]
    split
    · have := wsGo_b l (n + 1) (b + 1) nt cns; omega
    · split
      · have := wsGo_b l (n + 1) 0 (nt + 1) (wsBump cns b); omega
      · exact Nat.le_add_right ..
theorem wsGo_c : ∀ (l : List Nat) (n b nt : Nat) (cns : List Int), (wsGo l n b nt cns).2.2.2.length ≤ max cns.length (b + l.length)
  | [], _, _, _, _ => by rw [wsGo]; exact Nat.le_max_left ..
  | x :: l, n, b, nt, cns => by
    rw [wsGo, List.length_cons]
    split
    · have := wsGo_c l (n + 1) (b + 1) nt cns; omega
    · split
      · have := wsGo_c l (n + 1) 0 (nt + 1) (wsBump cns b)
        have := wsBump_length (cns := cns) (b := b)
        omega
      · exact Nat.le_max_left ..
theorem wsL_n {l : List Nat} (h : LeadOk l) : (wsL l).1 = l.length := by rw [wsL, wsGo_n l _ _ _ _ h.1, Nat.zero_add]
theorem wsL_ok {l : List Nat} (h : LeadOk l) : (wsL l).2.2.2.length ≤ 101 ∧ (wsL l).2.1 ≤ 101 := by
  have h1 := wsGo_c l 0 0 0 []
  have h2 := wsGo_b l 0 0 0 []
  have := h.2
  unfold wsL
  rw [List.length_nil] at h1
  constructor <;> omega
theorem wsOf_st {l r : List Nat} {c : Nat} (h : LeadOk l) (h1 : c ≠ 32) (h2 : c ≠ 9) : wsOf (stOf (l ++ c :: r)) = wsL l := wsGo_stop h1 h2 r l 0 0 0 [] h.1
theorem wsOf_wd {q : Wd} (h : WdOk q) : wsOf (wdStr q) = wsL q.1 := wsOf_st h.1 (by have := h.2.1; omega) (by have := h.2.1; omega)
theorem stamp_dec : ((List.range 1000).all fun n => match stampL n with | [] => false | c :: r => decide (48 ≤ c ∧ c < 58) && decide (r.length < 3)) = true := by decide +kernel
theorem stampL_eq {n : Nat} (h : n < 1000) : ∃ c r, stampL n = c :: r ∧ 48 ≤ c ∧ c < 58 ∧ r.length < 3 := by
  have h2 := List.all_eq_true.mp stamp_dec n (List.mem_range.mpr h)
  cases hs : stampL n with
  | nil => rw [hs] at h2; exact absurd h2 (by decide)
  | cons c r =>
    rw [hs] at h2
    dsimp only at h2
    rw [Bool.and_eq_true, decide_eq_true_iff, decide_eq_true_iff] at h2
    exact ⟨c, r, rfl, h2.1.1, h2.1.2, h2.2⟩
theorem wsOf_val {e : Ent} (h : EntOk e) : wsOf (valS e) = wsL e.lead := by
  obtain ⟨c, r, hc, h1, h2, _⟩ := stampL_eq h.2.2.2
  unfold valS
  rw [hc]
  exact wsOf_st h.1 (by omega) (by omega)
theorem val_len {e : Ent} (h : EntOk e) : (valS e).length ≤ 100 := by
  obtain ⟨c, r, hc, h1, h2, h3⟩ := stampL_eq h.2.2.2
  have := h.1.2
  rw [valS, st_len, List.length_append, hc, List.length_cons]; omega
def inAt (S : TS) (lead : List Nat) (i : Nat) : InS := (S.win.take i).foldl (inStep (S.taken + 1) lead) (S.win, S.told, true)
theorem inAt_succ {S : TS} {lead : List Nat} {i : Nat} {e : Ent} (h : S.win[i]? = some e) : inAt S lead (i + 1) = inStep (S.taken + 1) lead (inAt S lead i) e := by
  have : S.win.take (i + 1) = S.win.take i ++ [e] := by rw [List.take_add_one, h]; rfl
  rw [inAt, this, List.foldl_append]; rfl
theorem inAt_all (S : TS) (lead : List Nat) : inAt S lead S.win.length = inF (S.taken + 1) lead S.win S.told := by rw [inAt, List.take_length]; rfl
theorem foldl_inv {α β : Type} {f : β → α → β} {P : β → Prop} (hs : ∀ b a, P b → P (f b a)) : ∀ (l : List α) (b : β), P b → P (l.foldl f b)
  | [], _, h => h
  | _ :: l, _, h => foldl_inv hs l _ (hs _ _ h)
theorem in_sub {S : TS} {lead : List Nat} {i : Nat} : ∀ x ∈ (inAt S lead i).1, x ∈ S.win := by
  refine foldl_inv (P := fun r : InS => ∀ x ∈ r.1, x ∈ S.win) ?_ _ _ (fun x h => h)
  intro r e h
  have hf : ∀ x ∈ r.1.filter (fun x => x.c != e.c), x ∈ S.win := fun x hx => h x (List.mem_filter.mp hx).1
  unfold inStep
  split
  · exact hf
  · split
    · exact h
    · split
      · exact hf
      · exact h
theorem in_len {S : TS} {lead : List Nat} : ∀ {i : Nat}, i ≤ S.win.length → (inAt S lead i).1.length ≤ S.win.length ∧ (inAt S lead i).2.1.length ≤ S.told.length + i
  | 0, _ => ⟨Nat.le_refl _, Nat.le_refl _⟩
  | i + 1, hi => by
    obtain ⟨h1, h2⟩ := in_len (S := S) (lead := lead) (i := i) (by omega)
    have he : S.win[i]? = some (S.win[i]'(by omega)) := List.getElem?_eq_getElem _
    rw [inAt_succ he]
    generalize S.win[i]'(by omega) = e
    have hf := List.length_filter_le (fun x : Ent => x.c != e.c) (inAt S lead i).1
    unfold inStep
    split
    · rw [List.length_append, List.length_singleton]; dsimp only; constructor <;> omega
    · split
      · dsimp only; constructor <;> omega
      · split
        · dsimp only; constructor <;> omega
        · constructor <;> omega
theorem low_dec : ((List.range 6).all fun k => Txt.lower (stOf [k + 97]) == stOf [k + 97] && okN (k + 97)) = true := by decide +kernel
theorem low1 {c : Nat} (h : 97 ≤ c) (h2 : c < 103) : Txt.lower (stOf [c]) = stOf [c] ∧ okN c = true := by
  have := List.all_eq_true.mp low_dec (c - 97) (List.mem_range.mpr (by omega))
  rw [show c - 97 + 97 = c by omega, Bool.and_eq_true, beq_iff_eq] at this
  exact this
theorem st_inj1 {a b : Nat} (h : stOf [a] = stOf [b]) : a = b := by
  have : (stOf [a]).cps.toList = (stOf [b]).cps.toList := by rw [h]
  exact (List.cons.inj this).1
theorem filt_map {c : Nat} (hc : 97 ≤ c ∧ c < 103) : ∀ (l : List Ent), (∀ e ∈ l, 97 ≤ e.c ∧ e.c < 103) → ((l.map entP).filter fun q => Txt.lower q.1 != Txt.lower (stOf [c])) = (l.filter fun x => x.c != c).map entP
  | [], _ => rfl
  | e :: l, h => by
    have ih := filt_map hc l fun x hx => h x (.tail _ hx)
    have he := h e (.head _)
    have hb : (Txt.lower (entP e).1 != Txt.lower (stOf [c])) = (e.c != c) := by
      show (Txt.lower (stOf [e.c]) != _) = _
      rw [(low1 he.1 he.2).1, (low1 hc.1 hc.2).1]
      by_cases q : e.c = c
      · rw [q]; simp
      · rw [(bne_iff_ne).mpr q, (bne_iff_ne).mpr fun z => q (st_inj1 z)]
    rw [List.map_cons, List.filter_cons, List.filter_cons, hb, ih]
    split <;> rfl
theorem sl_from (l r : List Nat) {n : Nat} (hn : n = l.length) : Txt.slice (stOf (l ++ r)) (some (n : Int)) none = stOf r := by
  subst hn
  have hlen : (stOf (l ++ r)).length = l.length + r.length := by rw [st_len, List.length_append]
  rw [slice_from_eq (by omega) (by rw [hlen]; omega) rfl, hlen]
  show (⟨(((l ++ r).drop ((l.length : Int)).toNat).take _).toArray⟩ : Str) = ⟨r.toArray⟩
  rw [Int.toNat_natCast, List.drop_left, show ((((l.length + r.length : Nat) : Int) - (l.length : Int)).toNat) = r.length by omega, List.take_length]
theorem sl_to (l r : List Nat) {n : Nat} (hn : n = l.length) : Txt.slice (stOf (l ++ r)) none (some (n : Int)) = stOf l := by
  subst hn
  have hlen : (stOf (l ++ r)).length = l.length + r.length := by rw [st_len, List.length_append]
  rw [beq_iff_eq.mp (slice_closes_toL (x := stOf (l ++ r)) (j := (l.length : Int)) (by omega) (by rw [hlen]; omega))]
  show (⟨(((l ++ r).drop 0).take ((l.length : Int) - 0).toNat).toArray⟩ : Str) = ⟨l.toArray⟩
  rw [List.drop_zero, show (((l.length : Int) - 0).toNat) = l.length by omega, List.take_left]
theorem stamp_st (n : Nat) : stOf (stampL n) = Str.ofString (toString (n : Int)) := by
  show (⟨(Str.ofString (toString (n : Int))).cps.toList.toArray⟩ : Str) = _
  rw [Array.toArray_toList]
theorem val_from {e : Ent} (h : EntOk e) : Txt.slice (valS e) (some ((wsOf (valS e)).1 : Int)) none = Str.ofString (toString (e.stamp : Int)) := by
  rw [← stamp_st]
  exact sl_from _ _ (by rw [wsOf_val h, wsL_n h.1])
theorem val_int {e : Ent} (h : EntOk e) : PySem.intText? (Txt.slice (valS e) (some ((wsOf (valS e)).1 : Int)) none) = some (e.stamp : Int) := by
  rw [val_from h]
  exact PySem.W.KIN.num_reads (by omega) (by have := h.2.2.2; omega)
theorem val_fromlen {e : Ent} (h : EntOk e) : (Txt.slice (valS e) (some ((wsOf (valS e)).1 : Int)) none).length ≤ 640 := Nat.le_trans (Txt.slice_le _ _ _) (Nat.le_trans (val_len h) (by decide))
theorem wd_from {q : Wd} (h : WdOk q) : Txt.slice (wdStr q) (some ((wsL q.1).1 : Int)) none = stOf [q.2] := sl_from _ _ (wsL_n h.1)
theorem wd_to {q : Wd} (h : WdOk q) : Txt.slice (wdStr q) none (some ((wsL q.1).1 : Int)) = stOf q.1 := sl_to _ _ (wsL_n h.1)
theorem stampV_dec : ((List.range 1000).all fun n => (stampL n).all fun c => okV c) = true := by decide +kernel
theorem val_okV {l : List Nat} {n : Nat} (h : LeadOk l) (hn : n < 1000) : ∀ c ∈ l ++ stampL n, okV c = true := fun c hc => by
  rcases List.mem_append.mp hc with hc | hc
  · rcases h.1 c hc with rfl | rfl <;> decide
  · exact List.all_eq_true.mp (List.all_eq_true.mp stampV_dec n (List.mem_range.mpr hn)) c hc
theorem newV {q : Wd} (h : WdOk q) (n : Nat) : Txt.slice (wdStr q) none (some ((wsL q.1).1 : Int)) ++ Str.ofString (toString (n : Int)) = valS ⟨q.2, q.1, n⟩ := by
  rw [wd_to h, ← stamp_st]
  show (⟨q.1.toArray ++ (stampL n).toArray⟩ : Str) = ⟨(q.1 ++ stampL n).toArray⟩
  rw [List.append_toArray]
section
variable {prog : Program} {w : World} {A : Around} {E : Value → Shared → Prop} {s : Shared} {h₀ : Heap} {L : Addr} {m : Str → Option Value} {news : List (Addr × Obj)}
theorem append_L {l : Addr} {vs : List Value} {k : Nat} {x : Value} {Q : Value → Shared → Prop} (F : Fr h₀ L s.heap m) (N : News h₀ L s.heap news) (hm : (l, W.listOf vs.toArray k) ∈ news) (hz : vs.length ≤ 100000)
    (h : ∀ h', ∃ news', UpdS [(l, W.listOf (vs ++ [x]).toArray (k + 1))] news news' ∧ (Fr h₀ L h' m → News h₀ L h' news' → Q .none {s with heap := h'})) : wpAny (model prog w) A (call (.builtin "list.append") [.ref l, x]) Q E s := by
  have z := N _ hm
  refine append_at z.1 (fun h' hs ho => ?_) (by rw [List.size_toArray, sizeLine_eq]; omega)
  obtain ⟨news', u, q⟩ := h h'
  refine q (Fr.change F hs z.2.1 z.2.2) (News.updS u N (fun b o e n => hs.extBut b o (fun q => n (by rw [q]; exact .head _)) e) fun p hp => ?_)
  rw [List.mem_singleton.mp hp, ← List.push_toArray]
  exact ⟨ho, z.2⟩
end
section
variable {S : TS} {lead : List Nat} {i : Nat} {e : Ent}
theorem inAt_t (he : S.win[i]? = some e) (h : (e.stamp : Int) < (S.taken : Int) + 1) : inAt S lead (i + 1) = ((inAt S lead i).1.filter (fun x => x.c != e.c), (inAt S lead i).2.1 ++ [e.c], (inAt S lead i).2.2) := by
  rw [inAt_succ he, inStep, if_pos (by omega)]
theorem inAt_f (he : S.win[i]? = some e) (hok : EntOk e) (h : ¬ (e.stamp : Int) < (S.taken : Int) + 1) (h2 : lessF (wsOf (valS e)) (wsL lead) = true) : inAt S lead (i + 1) = ((inAt S lead i).1, (inAt S lead i).2.1, false) := by
  rw [wsOf_val hok] at h2
  rw [inAt_succ he, inStep, if_neg (by omega), if_pos (show lessL e.lead lead = true from h2)]
theorem inAt_d (he : S.win[i]? = some e) (hok : EntOk e) (h : ¬ (e.stamp : Int) < (S.taken : Int) + 1) (h2 : lessF (wsOf (valS e)) (wsL lead) = false) (h3 : lessF (wsL lead) (wsOf (valS e)) = true) : inAt S lead (i + 1) = ((inAt S lead i).1.filter (fun x => x.c != e.c), (inAt S lead i).2.1, (inAt S lead i).2.2) := by
  rw [wsOf_val hok] at h2 h3
  rw [inAt_succ he, inStep, if_neg (by omega), if_neg (show ¬ lessL e.lead lead = true by rw [show lessL e.lead lead = false from h2]; decide), if_pos (show lessL lead e.lead = true from h3)]
theorem inAt_n (he : S.win[i]? = some e) (hok : EntOk e) (h : ¬ (e.stamp : Int) < (S.taken : Int) + 1) (h2 : lessF (wsOf (valS e)) (wsL lead) = false) (h3 : lessF (wsL lead) (wsOf (valS e)) = false) : inAt S lead (i + 1) = inAt S lead i := by
  rw [wsOf_val hok] at h2 h3
  rw [inAt_succ he, inStep, if_neg (by omega), if_neg (show ¬ lessL e.lead lead = true by rw [show lessL e.lead lead = false from h2]; decide), if_neg (show ¬ lessL lead e.lead = true by rw [show lessL lead e.lead = false from h3]; decide)]
end
end Mine

theorem Mine.tt_p_told : True := by w_top off; exact trivial
namespace Mine
-- U-WHOLE
-- _LAW_TOLD
theorem lexQ_len : ∀ (n : Nat) (r acc : List Nat), r.length ≤ n → (lexQ r acc).1.length + (lexQ r acc).2.length ≤ acc.length + r.length
  | _, [], acc, _ => by rw [lexQ_n]; simp
  | 0, _ :: _, _, h => absurd h (Nat.not_succ_le_zero _)
  | n + 1, c :: r, acc, h => by
    rw [List.length_cons] at h
    by_cases h1 : c = 34
    · subst h1; rw [lexQ_q, List.length_cons]; dsimp only; omega
    · by_cases h2 : c = 92
      · subst h2; rw [lexQ_e]
        have := lexQ_len n r.tail (acc ++ r.take 1) (by rw [List.length_tail]; omega)
        have h3 := tail_take r
        rw [List.length_append] at this
        rw [List.length_cons]; omega
      · rw [lexQ_o h1 h2]
        have := lexQ_len n r (acc ++ [c]) (by omega)
        rw [List.length_append, List.length_singleton] at this
        rw [List.length_cons]; omega
theorem lexB_len (ws : List Nat) : ∀ (n : Nat) (r acc : List Nat), r.length ≤ n → (lexB ws r acc).1.length + (lexB ws r acc).2.length ≤ acc.length + r.length
  | _, [], acc, _ => by rw [lexB_n]; simp
  | 0, _ :: _, _, h => absurd h (Nat.not_succ_le_zero _)
  | n + 1, c :: r, acc, h => by
    rw [List.length_cons] at h
    by_cases h1 : c ∈ ws
    · rw [lexB_w h1, List.length_cons]; dsimp only; omega
    · by_cases h2 : c = 92
      · subst h2; rw [lexB_e h1]
        have := lexB_len ws n r.tail (acc ++ r.take 1) (by rw [List.length_tail]; omega)
        have h3 := tail_take r
        rw [List.length_append] at this
        rw [List.length_cons]; omega
      · rw [lexB_o h1 h2]
        have := lexB_len ws n r (acc ++ [c]) (by omega)
        rw [List.length_append, List.length_singleton] at this
        rw [List.length_cons]; omega
theorem lexO_len (ws : List Nat) : ∀ r : List Nat, (lexO ws r).1.length + (lexO ws r).2.length ≤ r.length
  | [] => Nat.le_refl _
  | c :: r => by
    rw [lexO, List.length_cons]
    split
    · exact Nat.le_succ_of_le (lexO_len ws r)
    · split
      · have := lexQ_len _ r [] (Nat.le_refl _)
        rw [List.length_nil] at this; omega
      · split
        · have := lexB_len ws _ r.tail (r.take 1) (Nat.le_refl _)
          have h3 := tail_take r
          omega
        · have := lexB_len ws _ r [c] (Nat.le_refl _)
          rw [List.length_singleton] at this; omega
inductive Toks (ws : List Nat) : List Nat → List (List Nat) → Prop where
  | nil {chs : List Nat} : lexO ws chs = ([], []) → Toks ws chs []
  | cons {chs w r : List Nat} {l : List (List Nat)} : lexO ws chs = (w, r) → w ≠ [] → Toks ws r l → Toks ws chs (w :: l)
def NeA (a b : Nat) : Prop := a ≠ b
theorem NeA.ne {a b : Nat} (h : NeA a b) : a ≠ b := h
theorem NeA.en {a b : Nat} (h : NeA a b) : b ≠ a := fun e => h e.symm
theorem lexNe {G : LexG} (h : LexLt G) (hx : @LT.lt Nat _ G.x G.pb) : (NeA G.sg G.st) ∧ (NeA G.sg G.sd) ∧ (NeA G.sg G.d) ∧ (NeA G.sg G.x) ∧ (NeA G.sg G.pb) ∧ (NeA G.st G.sd) ∧ (NeA G.st G.d) ∧ (NeA G.st G.x) ∧ (NeA G.st G.pb) ∧ (NeA G.sd G.d) ∧ (NeA G.sd G.x) ∧ (NeA G.sd G.pb) ∧ (NeA G.d G.x) ∧ (NeA G.d G.pb) ∧ (NeA G.x G.pb) := by
  obtain ⟨a1, a2, a3, a4⟩ := h
  have l02 := Nat.lt_trans a1 a2
  have l13 := Nat.lt_trans a2 a3
  have l24 := Nat.lt_trans a3 a4
  have l35 := Nat.lt_trans a4 hx
  have l03 := Nat.lt_trans l02 a3
  have l14 := Nat.lt_trans l13 a4
  have l25 := Nat.lt_trans l24 hx
  have l04 := Nat.lt_trans l03 a4
  have l15 := Nat.lt_trans l14 hx
  have l05 := Nat.lt_trans l04 hx
  exact ⟨Nat.ne_of_lt a1, Nat.ne_of_lt l02, Nat.ne_of_lt l03, Nat.ne_of_lt l04, Nat.ne_of_lt l05, Nat.ne_of_lt a2, Nat.ne_of_lt l13, Nat.ne_of_lt l14, Nat.ne_of_lt l15, Nat.ne_of_lt a3, Nat.ne_of_lt l24, Nat.ne_of_lt l25, Nat.ne_of_lt a4, Nat.ne_of_lt l35, Nat.ne_of_lt hx⟩
theorem winNe {G : LexG} {wd wi hl tl : Addr} (h : LexLt G) (hx : @LT.lt Nat _ G.x G.pb) (w : @LT.lt Nat _ G.pb wd ∧ @LT.lt Nat _ G.x wd ∧ @LT.lt Nat _ wd wi ∧ @LT.lt Nat _ wi hl ∧ @LT.lt Nat _ hl tl) : (NeA G.sg wd) ∧ (NeA G.sg wi) ∧ (NeA G.sg hl) ∧ (NeA G.sg tl) ∧ (NeA G.st wd) ∧ (NeA G.st wi) ∧ (NeA G.st hl) ∧ (NeA G.st tl) ∧ (NeA G.sd wd) ∧ (NeA G.sd wi) ∧ (NeA G.sd hl) ∧ (NeA G.sd tl) ∧ (NeA G.d wd) ∧ (NeA G.d wi) ∧ (NeA G.d hl) ∧ (NeA G.d tl) ∧ (NeA G.x wd) ∧ (NeA G.x wi) ∧ (NeA G.x hl) ∧ (NeA G.x tl) ∧ (NeA G.pb wd) ∧ (NeA G.pb wi) ∧ (NeA G.pb hl) ∧ (NeA G.pb tl) ∧ (NeA wd wi) ∧ (NeA wd hl) ∧ (NeA wd tl) ∧ (NeA wi hl) ∧ (NeA wi tl) ∧ (NeA hl tl) := by
  obtain ⟨a1, a2, a3, a4⟩ := h
  obtain ⟨b1, _, b2, b3, b4⟩ := w
  have l0_2 := Nat.lt_trans a1 a2
  have l1_3 := Nat.lt_trans a2 a3
  have l2_4 := Nat.lt_trans a3 a4
  have l3_5 := Nat.lt_trans a4 hx
  have l4_6 := Nat.lt_trans hx b1
  have l5_7 := Nat.lt_trans b1 b2
  have l6_8 := Nat.lt_trans b2 b3
  have l7_9 := Nat.lt_trans b3 b4
  have l0_3 := Nat.lt_trans l0_2 a3
  have l1_4 := Nat.lt_trans l1_3 a4
  have l2_5 := Nat.lt_trans l2_4 hx
  have l3_6 := Nat.lt_trans l3_5 b1
  have l4_7 := Nat.lt_trans l4_6 b2
  have l5_8 := Nat.lt_trans l5_7 b3
  have l6_9 := Nat.lt_trans l6_8 b4
  have l0_4 := Nat.lt_trans l0_3 a4
  have l1_5 := Nat.lt_trans l1_4 hx
  have l2_6 := Nat.lt_trans l2_5 b1
  have l3_7 := Nat.lt_trans l3_6 b2
  have l4_8 := Nat.lt_trans l4_7 b3
  have l5_9 := Nat.lt_trans l5_8 b4
  have l0_5 := Nat.lt_trans l0_4 hx
  have l1_6 := Nat.lt_trans l1_5 b1
  have l2_7 := Nat.lt_trans l2_6 b2
  have l3_8 := Nat.lt_trans l3_7 b3
  have l4_9 := Nat.lt_trans l4_8 b4
  have l0_6 := Nat.lt_trans l0_5 b1
  have l1_7 := Nat.lt_trans l1_6 b2
  have l2_8 := Nat.lt_trans l2_7 b3
  have l3_9 := Nat.lt_trans l3_8 b4
  have l0_7 := Nat.lt_trans l0_6 b2
  have l1_8 := Nat.lt_trans l1_7 b3
  have l2_9 := Nat.lt_trans l2_8 b4
  have l0_8 := Nat.lt_trans l0_7 b3
  have l1_9 := Nat.lt_trans l1_8 b4
  have l0_9 := Nat.lt_trans l0_8 b4
  exact ⟨Nat.ne_of_lt l0_6, Nat.ne_of_lt l0_7, Nat.ne_of_lt l0_8, Nat.ne_of_lt l0_9, Nat.ne_of_lt l1_6, Nat.ne_of_lt l1_7, Nat.ne_of_lt l1_8, Nat.ne_of_lt l1_9, Nat.ne_of_lt l2_6, Nat.ne_of_lt l2_7, Nat.ne_of_lt l2_8, Nat.ne_of_lt l2_9, Nat.ne_of_lt l3_6, Nat.ne_of_lt l3_7, Nat.ne_of_lt l3_8, Nat.ne_of_lt l3_9, Nat.ne_of_lt l4_6, Nat.ne_of_lt l4_7, Nat.ne_of_lt l4_8, Nat.ne_of_lt l4_9, Nat.ne_of_lt b1, Nat.ne_of_lt l5_7, Nat.ne_of_lt l5_8, Nat.ne_of_lt l5_9, Nat.ne_of_lt b2, Nat.ne_of_lt l6_8, Nat.ne_of_lt l6_9, Nat.ne_of_lt b3, Nat.ne_of_lt l7_9, Nat.ne_of_lt b4⟩
local macro_rules | `(tactic| k_ne) => `(tactic| ((try dsimp only); first | with_reducible assumption | exact Mine.NeA.ne (by with_reducible assumption) | exact Mine.NeA.en (by with_reducible assumption) | (refine neN ?_; omega)))
-- the words: while word != '': words.append(word); word = lexer.get_token()
abbrev t1Map (wd : List Nat) (tw : Tok) (wl : Addr) (room : Int) (tr : Tok) (x : Addr) : Str → Option Value :=
  mput "word" (some (.str (stOf wd) tw)) (mput "words" (some (.ref wl)) (mput "room" (some (.int room tr)) (mput "lexer" (some (.ref x)) mnil)))
def T1J (P : Params) (G : LexG) (own : List (Addr × Obj)) (pk : Nat) (toks : List (List Nat)) (room : Int) (tr : Tok) (n : Nat) (m₁ : Str → Option Value) (nx : List (Addr × Obj)) : Prop :=
  ∃ (done : List (List Nat)) (wd chs : List Nat) (wvs svs : List Value) (wk k : Nat) (ln : Int) (t5 tw : Tok) (wl : Addr),
    m₁ = t1Map wd tw wl room tr G.x ∧ nx = (wl, W.listOf wvs.toArray wk) :: lexLed P G ln t5 svs k ((G.pb, W.listOf #[] pk) :: own) ∧ StrsAre wvs (done.map stOf) ∧ SgAre svs chs ∧ chs.length ≤ 1000 ∧ @LT.lt Nat _ G.pb wl ∧ @LT.lt Nat _ G.x wl ∧ AllLt wl own ∧
    ((wd ≠ [] ∧ ∃ rest, toks = done ++ wd :: rest ∧ Toks G.ws.cps.toList chs rest ∧ n = rest.length + 1) ∨ (wd = [] ∧ toks = done ∧ chs = [] ∧ n = 0))
theorem T1J.mk {P : Params} {G : LexG} {own : List (Addr × Obj)} {pk : Nat} {toks done rest : List (List Nat)} {room : Int} {tr : Tok} {m₁ : Str → Option Value} {chs : List Nat} {wvs svs : List Value} {wk k : Nat} {ln : Int} {t5 tw : Tok} {wl : Addr} (hT : Toks G.ws.cps.toList chs rest) (ht : toks = done ++ rest)
    (hm : m₁ = t1Map (lexO G.ws.cps.toList chs).1 tw wl room tr G.x) (hw : StrsAre wvs (done.map stOf)) (hs : SgAre svs (lexO G.ws.cps.toList chs).2) (hl : chs.length ≤ 1000) (o1 : @LT.lt Nat _ G.pb wl) (o2 : @LT.lt Nat _ G.x wl) (o3 : AllLt wl own) :
    T1J P G own pk toks room tr rest.length m₁ ((wl, W.listOf wvs.toArray wk) :: lexLed P G ln t5 svs k ((G.pb, W.listOf #[] pk) :: own)) := by
  have hle := lexO_len G.ws.cps.toList chs
  cases hT with
  | nil e =>
    rw [e] at hm hs
    refine ⟨done, [], [], wvs, svs, wk, k, ln, t5, tw, wl, hm, rfl, hw, hs, Nat.zero_le _, o1, o2, o3, .inr ⟨rfl, by rw [ht, List.append_nil], rfl, rfl⟩⟩
  | cons e hne hT' =>
    rw [e] at hm hs hle
    dsimp only at hle
    exact ⟨done, _, _, wvs, svs, wk, k, ln, t5, tw, wl, hm, rfl, hw, hs, (by dsimp only; omega), o1, o2, o3, .inl ⟨hne, _, ht, hT', by rw [List.length_cons]⟩⟩
def OffL (D : Addr) : List (Addr × Obj) → Prop
  | [] => True
  | p :: r => (@Ne Nat p.1 D) ∧ OffL D r
theorem offL {D : Addr} : ∀ {l : List (Addr × Obj)}, (∀ p ∈ l, p.1 ≠ D) → OffL D l
  | [], _ => trivial
  | p :: _, h => ⟨h p (.head _), offL fun q hq => h q (.tail _ hq)⟩
theorem offL_mem {D : Addr} : ∀ {l : List (Addr × Obj)}, OffL D l → ∀ p ∈ l, p.1 ≠ D
  | [], _, _, h => nomatch h
  | p :: _, h, q, hq => by
    rcases List.mem_cons.mp hq with rfl | hq
    · exact h.1
    · exact offL_mem h.2 q hq
theorem mem_of {q : Addr × Obj} {l l' : List (Addr × Obj)} (h : q ∈ l) (k : ∀ q ∈ l, q ∈ l') : q ∈ l' := k q h
local macro_rules | `(tactic| walk_at "call ref") => Mine.ln `Mine.get_token_readU 12 0 false "AaBaCaDaEaFkHsIsJSKsLOGr" none 132 9 "Iabcdefgh U Iij D F"
local macro_rules | `(tactic| walk_at "call ref") => Mine.ln `Mine.push_tokenU 12 0 false "AaBaCaDaEaFkJmKmLmHCIOGr" none 139 9 "Iab U Icd D F"
local macro_rules | `(tactic| walk_at "call ref") => Mine.ln `Mine.get_token_popU 12 0 false "AaBaCaDaEaFkJmKmLmHCIOGr" none 132 9 "Iab U Icd D F"
local macro_rules | `(tactic| walk_at "call ref") => Mine.ln `Mine.hd_make 7 0 false "AaBaCaDaEaFkGr" none 279 1 "Iabcdefghijk Li Mj Mk D F"
-- for word in words: lexer.push_token(word)
abbrev t2Map (vw : Option Value) (wl : Addr) (room : Int) (tr : Tok) (x : Addr) : Str → Option Value :=
  mput "word" vw (mput "words" (some (.ref wl)) (mput "room" (some (.int room tr)) (mput "lexer" (some (.ref x)) mnil)))
def T2J (P : Params) (G : LexG) (own : List (Addr × Obj)) (svs wvs : List Value) (k : Nat) (ln : Int) (t5 : Tok) (wl : Addr) (room : Int) (tr : Tok) (i : Nat) (m₁ : Str → Option Value) (nx : List (Addr × Obj)) : Prop :=
  ∃ vw pk, m₁ = t2Map vw wl room tr G.x ∧ nx = lexLed P G ln t5 svs k ((G.pb, W.listOf (wvs.take i).toArray pk) :: own)
local macro_rules | `(tactic| walk_at "call ref") => `(tactic| (k_here; (with_reducible show wpAny _ _ (call (Value.ref 231) _) _ _ _); k_dflt (refine' Mine.hd_keys ?k1 ?k2 ?k3 ?k4 ?k5 ?kK ?kd ?kl ?kz ?kp ?ks ?_; (case k1 => k_asm); (case k2 => k_asm); (case k3 => k_asm); (case k4 => k_asm); (case k5 => k_asm); (case kK => first | exact rfl | assumption); (case kp => assumption); (case ks => (refine Mine.sub_cons (by k_mem) (Mine.sub_cons (by k_mem) (Mine.sub_cons (by k_mem) ?_)); k_sub)); (case kl => first | exact ⟨by with_reducible assumption, by with_reducible assumption⟩ | (constructor <;> omega)); (case kz => (simp only [List.length_map]; omega)); (case kd => ktr_room)); intro D9 h9 tk9' ks9 k9 F9 N9 K9 o9; (replace o9 := offL o9); (simp only [OffL, and_true] at o9); (have n9 := Mine.StrsAre.length K9); (simp only [List.length_map] at n9); (try dsimp only); (try k_fold)))
local macro_rules | `(tactic| walk_at "α") => `(tactic| exact Mine.StrsAre.append (by assumption) (by assumption))
local macro_rules | `(tactic| walk_at "β") => `(tactic| (rw [List.length_append]; omega))
local macro_rules | `(tactic| walk_at "call builtin:sorted") => Mine.ln `Mine.sorted_LL 5 0 true "AaBaCmDαEβ" none 0 0 "Iabcdefghijk Lh W"
local macro_rules | `(tactic| walk_at "γ") => `(tactic| exact (Mine.sub_cons (by k_mem) (Mine.sub_cons (by k_mem) (Mine.sub_cons (by k_mem) Mine.sub_nil))))
local macro_rules | `(tactic| walk_at "call ref") => Mine.ln `Mine.hd_items 10 0 false "AaBaCaDaEaFkJγHCIoGr" none 243 1 "Iabcdef Of Pf D F"
local macro_rules | `(tactic| walk_at "δ") => `(tactic| first | assumption | (simp only [Mine.st_len, List.length_append, List.length_singleton]; omega))
local macro_rules | `(tactic| walk_at "call ref") => Mine.ln `Mine.ws_callW 9 0 false "AaBaCaDaEaFkIδGrHu" none 100 1 "Iabcdefghijklmnopqrstuv Ls Mt Mu Mv D F"
local macro_rules | `(tactic| walk_at "ε") => `(tactic| (refine Mine.WsIn.mono (by assumption) ?_; first | ((refine Mine.sub_cons ?_ (Mine.sub_cons ?_ (Mine.sub_cons ?_ (Mine.sub_cons ?_ Mine.sub_nil)))) <;> k_mem) | (intro q hq; repeat (first | exact List.mem_append_left _ hq | refine List.Mem.tail _ ?_))))
local macro_rules | `(tactic| walk_at "call ref") => Mine.ln `Mine.less_call 11 0 false "AaBaCaDaEaFkHεIεJsKsGr" none 90 1 "Iabcd D F"
local macro_rules | `(tactic| walk_at "ζ") => `(tactic| (intro q hq; (repeat (first | exact Mine.mem_of hq (by with_reducible assumption) | exact List.mem_append_left _ hq | exact hq | refine List.Mem.tail _ ?_))))
local macro_rules | `(tactic| walk_at "call ref") => Mine.ln `Mine.hd_delU 18 0 false "AaBaCaDaEaFkNsHmImJmKζLCMlOsPsQsROGr" none 197 9 "Iabcdef U Igh D F"
local macro_rules | `(tactic| walk_at "call builtin:list.append") => do
  let g := (some (← `(term| wpAny _ _ (call (Value.builtin _) [Value.ref _, _]) _ _ _)))
  Mine.ln `Mine.append_L 4 0 false "AaBaCmDo" g 0 9 "Ia U Ibc D W"
local macro_rules | `(tactic| walk_at "η") => `(tactic| (intro q hq; (repeat (first | exact hq | refine List.Mem.tail _ ?_))))
local macro_rules | `(tactic| walk_at "call ref") => Mine.ln `Mine.hd_setU 21 0 false "AaBaCaDaEaFkNsHmImJmKηLCMlOsPsQsRsSsTsUsGr" none 192 9 "Iabcdefg U Ihi Og Pg D F"
section
variable {w : World} {A : Around} {h₀ : Heap} {L : Addr} {m : Str → Option Value} {s : Shared} {E : Value → Shared → Prop} {news : List (Addr × Obj)}
theorem ws_less_m {x : Addr} {r : WsR} {T : List (Addr × Obj)} {pl : Sem Bool} {Q : Value × List Value → Shared → Prop} (F : Fr h₀ L s.heap m) (X : (Mine.hdm.heap_1 w.params).In h₀) (N : News h₀ L s.heap news) (W : WsIn w.params T x r) (hT : ∀ p ∈ T, p ∈ news)
    (h : Q (.ref 90, [.ref x]) s) : wpAny (model PySem.Challenge.pw_pg0318_03 w) A (getMethod (.ref x) (Str.ofString "less") pl) Q E s := by
  obtain ⟨ws, d, D, D1, cvs, t, t1, t2, t3, t4, t5, t6, t7, t8, m1, m2, _⟩ := W
  exact method_inst F X (InstAt.of_news N (hT _ m1) (hT _ m2)) (by k_is) (by k_is) (by k_is) (by k_get) h
end
local macro_rules | `(tactic| walk_at "θ") => `(tactic| first | ((refine Mine.sub_cons ?_ (Mine.sub_cons ?_ (Mine.sub_cons ?_ (Mine.sub_cons ?_ Mine.sub_nil)))) <;> k_mem) | (intro q hq; repeat (first | exact List.mem_append_left _ hq | refine List.Mem.tail _ ?_)))
local macro_rules | `(tactic| walk_at "getMethod ref") => do
  let g := (some (← `(term| wpAny _ _ (getMethod (Value.ref _) (Str.ofString "less") _) _ _ _)))
  Mine.ln `Mine.ws_less_m 5 0 true "AaBaCaDsEθ" g 0 0 ""
-- the window: while taken < pushed
abbrev t3Map (vth vv vn vst vh : Option Value) (tl wi : Addr) (tk : Int) (ttk : Tok) (pu : Int) (tpu : Tok) (vw : Option Value) (wl : Addr) (room : Int) (tr : Tok) (x : Addr) : Str → Option Value :=
  mput "there" vth (mput "value" vv (mput "name" vn (mput "stays" vst (mput "here" vh (mput "told" (some (.ref tl)) (mput "window" (some (.ref wi)) (mput "taken" (some (.int tk ttk)) (mput "pushed" (some (.int pu tpu)) (mput "word" vw (mput "words" (some (.ref wl)) (mput "room" (some (.int room tr)) (mput "lexer" (some (.ref x)) mnil))))))))))))
def T3J (P : Params) (G : LexG) (own : List (Addr × Obj)) (room : Nat) (tr : Tok) (Fin : TS) (n : Nat) (m₁ : Str → Option Value) (nx : List (Addr × Obj)) : Prop :=
  ∃ (S : TS) (vth vv vn vst vh vw : Option Value) (tl hl wi wd wl : Addr) (ttk tpu th t5 : Tok) (tvs hvs qvs svs : List Value) (tk hk qk k : Nat) (ln : Int) (tail : List (Addr × Obj)),
    RunsN room n S Fin ∧ m₁ = t3Map vth vv vn vst vh tl wi (S.taken : Int) ttk (S.pushed : Int) tpu vw wl (room : Int) tr G.x ∧
    nx = (tl, W.listOf tvs.toArray tk) :: (hl, W.listOf hvs.toArray hk) :: (wi, instObj 279 wd) :: (wd, hdDict P th hl) :: lexLed P G ln t5 svs k ((G.pb, W.listOf qvs.toArray qk) :: tail) ∧
    SgAre svs [] ∧ StrsAre tvs (S.told.map fun c => stOf [c]) ∧ PairsIn tail hvs (S.win.map entP) ∧ StrsAre qvs (S.queue.map wdStr) ∧ (∀ q ∈ own, q ∈ tail) ∧ OwnOff tail [G.d, G.sg, G.pb, hl, tl] ∧
    (@LT.lt Nat _ G.pb wd ∧ @LT.lt Nat _ G.x wd ∧ @LT.lt Nat _ wd wi ∧ @LT.lt Nat _ wi hl ∧ @LT.lt Nat _ hl tl)
theorem T3J.mk {P : Params} {G : LexG} {own : List (Addr × Obj)} {room : Nat} {tr : Tok} {Fin : TS} {n : Nat} {m₁ : Str → Option Value} (S : TS) {vth vv vn vst vh vw : Option Value} {tl hl wi wd wl : Addr} {ttk tpu th t5 : Tok} {tvs hvs qvs svs : List Value} {tk hk qk k : Nat} {ln : Int} {tail : List (Addr × Obj)}
    (hr : RunsN room n S Fin) (hm : m₁ = t3Map vth vv vn vst vh tl wi (S.taken : Int) ttk (S.pushed : Int) tpu vw wl (room : Int) tr G.x)
    (hs : SgAre svs []) (ht : StrsAre tvs (S.told.map fun c => stOf [c])) (hp : PairsIn tail hvs (S.win.map entP)) (hq : StrsAre qvs (S.queue.map wdStr)) (ho : ∀ q ∈ own, q ∈ tail) (hf : OwnOff tail [G.d, G.sg, G.pb, hl, tl])
    (hlt : @LT.lt Nat _ G.pb wd ∧ @LT.lt Nat _ G.x wd ∧ @LT.lt Nat _ wd wi ∧ @LT.lt Nat _ wi hl ∧ @LT.lt Nat _ hl tl) :
    T3J P G own room tr Fin n m₁ ((tl, W.listOf tvs.toArray tk) :: (hl, W.listOf hvs.toArray hk) :: (wi, instObj 279 wd) :: (wd, hdDict P th hl) :: lexLed P G ln t5 svs k ((G.pb, W.listOf qvs.toArray qk) :: tail)) :=
  ⟨S, vth, vv, vn, vst, vh, vw, tl, hl, wi, wd, wl, ttk, tpu, th, t5, tvs, hvs, qvs, svs, tk, hk, qk, k, ln, tail, hr, hm, rfl, hs, ht, hp, hq, ho, hf, hlt⟩
def InJ (P : Params) (T tail : List (Addr × Obj)) (S : TS) (lead : List Nat) (tl hl wi wd wl x9 lx : Addr) (tpu th : Tok) (vw : Option Value) (room : Int) (tr : Tok) (i : Nat) (m₁ : Str → Option Value) (nx : List (Addr × Obj)) : Prop :=
  ∃ (vth vv vn : Option Value) (tst : Bool) (ttk : Tok) (tvs hvs : List Value) (tk hk : Nat),
    m₁ = t3Map vth vv vn (some (.bool tst)) (some (.ref x9)) tl wi ((S.taken : Int) + 1) ttk (S.pushed : Int) tpu vw wl room tr lx ∧ tst = (inAt S lead i).2.2 ∧
    nx = (tl, W.listOf tvs.toArray tk) :: (hl, W.listOf hvs.toArray hk) :: (wi, instObj 279 wd) :: (wd, hdDict P th hl) :: T ∧ StrsAre tvs ((inAt S lead i).2.1.map fun c => stOf [c]) ∧ PairsIn tail hvs ((inAt S lead i).1.map entP)
theorem InJ.fin {P : Params} {T tail : List (Addr × Obj)} {S : TS} {lead : List Nat} {tl hl wi wd wl x9 lx : Addr} {ttk tpu th : Tok} {vw : Option Value} {room : Int} {tr : Tok} {i : Nat} {m' : Str → Option Value}
    {vth vv vn : Option Value} {tst : Bool} {o1 o2 : Obj} {tvs' hvs' : List Value} {tk' hk' : Nat} {g h' : Heap} {L' : Addr} {own news' : List (Addr × Obj)} {s : Shared} {tok : Nat}
    (F : Fr g L' h' m') (N : News g L' h' news') (hm : m' = t3Map vth vv vn (some (.bool tst)) (some (.ref x9)) tl wi ((S.taken : Int) + 1) ttk (S.pushed : Int) tpu vw wl room tr lx)
    (hoff : ∀ p ∈ (tl, o1) :: (hl, o2) :: (wi, instObj 279 wd) :: (wd, hdDict P th hl) :: T, ∀ q ∈ own, p.1 ≠ q.1)
    (hs : ∀ p ∈ (tl, W.listOf tvs'.toArray tk') :: (hl, W.listOf hvs'.toArray hk') :: (wi, instObj 279 wd) :: (wd, hdDict P th hl) :: T, p ∈ news') (ho : ∀ p ∈ own, p ∈ news')
    (hst : tst = (inAt S lead (i + 1)).2.2) (htv : StrsAre tvs' ((inAt S lead (i + 1)).2.1.map fun c => stOf [c])) (hpv : PairsIn tail hvs' ((inAt S lead (i + 1)).1.map entP)) :
    JEnd g L' (InJ P T tail S lead tl hl wi wd wl x9 lx tpu th vw room tr (i + 1)) own s {s with heap := h', toks := tok} := by
  refine JEnd.intro ((tl, W.listOf tvs'.toArray tk') :: (hl, W.listOf hvs'.toArray hk') :: (wi, instObj 279 wd) :: (wd, hdDict P th hl) :: T) F N hs ho ?_ ⟨vth, vv, vn, tst, ttk, tvs', hvs', tk', hk', hm, hst, rfl, htv, hpv⟩
  exact List.forall_mem_cons.mpr ⟨fun q hq => hoff (tl, o1) (.head _) q hq, List.forall_mem_cons.mpr ⟨fun q hq => hoff (hl, o2) (.tail _ (.head _)) q hq, fun p hp => hoff p (.tail _ (.tail _ hp))⟩⟩
theorem News.turn9 {h₀ h : Heap} {L : Addr} {D e1 e2 x d a b c w : Addr × Obj} {r : List (Addr × Obj)} (N : News h₀ L h (D :: e1 :: e2 :: x :: d :: a :: b :: c :: w :: r)) : ∃ T, T = e1 :: e2 :: x :: d :: r ∧ News h₀ L h (D :: a :: b :: c :: w :: T) :=
  ⟨_, rfl, News.sub N (sub_cons (.head _) (sub_cons (.tail _ (.tail _ (.tail _ (.tail _ (.tail _ (.head _)))))) (sub_cons (.tail _ (.tail _ (.tail _ (.tail _ (.tail _ (.tail _ (.head _))))))) (sub_cons (.tail _ (.tail _ (.tail _ (.tail _ (.tail _ (.tail _ (.tail _ (.head _)))))))) (sub_cons (.tail _ (.tail _ (.tail _ (.tail _ (.tail _ (.tail _ (.tail _ (.tail _ (.head _))))))))) (sub_cons (.tail _ (.head _)) (sub_cons (.tail _ (.tail _ (.head _))) (sub_cons (.tail _ (.tail _ (.tail _ (.head _)))) (sub_cons (.tail _ (.tail _ (.tail _ (.tail _ (.head _))))) fun q hq => .tail _ (.tail _ (.tail _ (.tail _ (.tail _ (.tail _ (.tail _ (.tail _ (.tail _ hq)))))))))))))))))⟩
theorem WsIn.name {P : Params} {l : List (Addr × Obj)} {x : Addr} {r : WsR} (h : WsIn P l x r) : ∃ x', x' = x ∧ WsIn P l x' r := ⟨x, rfl, h⟩
theorem off_lo {T : List (Addr × Obj)} {a b : Addr} {p : Addr × Obj} (hab : @LT.lt Nat _ a b) (h : @LT.lt Nat _ p.1 a) (k : OwnOff T [a, b]) : OwnOff (p :: T) [a, b] := fun q hq r hr => by
  rcases List.mem_cons.mp hq with rfl | hq
  · simp only [List.mem_cons, List.not_mem_nil, or_false] at hr
    rcases hr with rfl | rfl
    · exact Nat.ne_of_lt h
    · exact Nat.ne_of_lt (Nat.lt_trans h hab)
  · exact k q hq r hr
theorem off_hi {T : List (Addr × Obj)} {a b : Addr} {p : Addr × Obj} (hab : @LT.lt Nat _ a b) (h : @LT.lt Nat _ b p.1) (k : OwnOff T [a, b]) : OwnOff (p :: T) [a, b] := fun q hq r hr => by
  rcases List.mem_cons.mp hq with rfl | hq
  · simp only [List.mem_cons, List.not_mem_nil, or_false] at hr
    rcases hr with rfl | rfl
    · exact Nat.ne_of_gt (Nat.lt_trans hab h)
    · exact Nat.ne_of_gt h
  · exact k q hq r hr
theorem News.drop5 {h₀ h : Heap} {L : Addr} {a b c d e : Addr × Obj} {r : List (Addr × Obj)} (N : News h₀ L h (a :: b :: c :: d :: e :: r)) : News h₀ L h (a :: b :: c :: d :: r) :=
  News.sub N (sub_cons (.head _) (sub_cons (.tail _ (.head _)) (sub_cons (.tail _ (.tail _ (.head _))) (sub_cons (.tail _ (.tail _ (.tail _ (.head _)))) fun _ h => .tail _ (.tail _ (.tail _ (.tail _ (.tail _ h))))))))
theorem off_lt {tail : List (Addr × Obj)} {as : List Addr} {d : Addr} (h : AllLt d tail) (k : ∀ a ∈ as, d ≤ a) : OwnOff tail as := fun p hp a ha e => by
  have := allLt_mem tail h p hp
  have h2 := k a ha
  rw [e] at this
  exact absurd this (Nat.not_lt.mpr h2)
section
variable {w : World} {dp un : Nat} {gd : Option (List Code)} {cn : Str} {cs : Scope} {a : Addr} {ccd : Value} {cl : List (Str × Addr)} {outer : List Env} {A₀ : Around} {base h₀ : Heap} {L : Addr} {m mg mb : Str → Option Value} {p : Program} {loose : List Str} {mean : ExcName → Option Value} {s : Shared} {Q E : Value → Shared → Prop} {news : List (Addr × Obj)}
theorem told_call {G : LexG} {ln : Int} {t5 : Tok} {svs : List Value} {k pk : Nat} {own : List (Addr × Obj)} {chs : List Nat} {toks : List (List Nat)} {room : Int} {tr : Tok}
  (B : Below A₀ base outer h₀) (F : Fr h₀ L s.heap m) (X : (Mine.hdm.heap_1 w.params).In h₀) (N : News h₀ L s.heap news) (T₀ : Top p loose mean mg mb h₀) (hk : cs.kind = .function) (hd : dp + 40 < recursionLimit) (hu : un + 100 < cLine)
  (O : LexOk PySem.Challenge.pw_pg0318_03 w (Mine.hdm.heap_1 w.params) p loose mean mg mb G own) (hpb : @LT.lt Nat _ G.sg G.pb ∧ @LT.lt Nat _ G.d G.pb) (hxp : @LT.lt Nat _ G.x G.pb) (hop : ∀ q ∈ own, q.1 ≠ G.pb)
  (hsub : ∀ q ∈ lexLed w.params G ln t5 svs k ((G.pb, W.listOf #[] pk) :: own), q ∈ news) (hsv : SgAre svs chs) (hlen : chs.length ≤ 1000) (hT : Toks G.ws.cps.toList chs toks) (hnt : toks.length ≤ 100) {rm : Nat} (hroom : room = (rm : Int)) {wds : List Wd} {Fin : TS} {nn : Nat} (hwd : toks = wds.map fun q => q.1 ++ [q.2]) (hrun : RunsN rm nn ⟨wds, 0, wds.length, [], []⟩ Fin)
  (ret : ∀ D l' vs k' ss t h' tk', Fr h₀ L h' m → Keeps [G.d, G.sg, G.pb] s.heap h' → News h₀ L h' [(D, { cls := .type "tuple", data := .seq #[.ref l', .str (stOf []) t] }), (l', W.listOf vs.toArray k')] → StrsAre vs ss → ss.Perm ((Fin.told.map fun c => stOf [c]) ++ (Fin.win.map entP).map fun x => x.1) → sortedS ss = true → Q (.ref D) {s with heap := h', toks := tk'}) :
  wpAny (model PySem.Challenge.pw_pg0318_03 w) (ktrTop dp un gd cn cs L a ccd cl outer) (call (.ref 309) [.ref G.x, .int room tr]) Q E s := by
  refine wpAny_call ?_
  have hO := O.lt
  obtain ⟨e0, e1, e2, e3, e4, e5, e6, e7, e8, e9, e10, e11, e12, e13, e14⟩ := lexNe hO hxp
  obtain ⟨a1, a2, a3, a4⟩ := id hO
  have N₁ := News.sub N hsub
  ktr_enter
  intro g L' h₂ hgs hgk hgn F₂ N₂ B₂ X₂ T₂
  clear hgs hgn B N₁
  have ho : OwnOff own [G.d, G.sg, G.pb] := fun q hq r hr => by
    simp only [List.mem_cons, List.not_mem_nil, or_false] at hr
    rcases hr with rfl | rfl | rfl
    · exact O.off q hq _ (.head _)
    · exact O.off q hq _ (.tail _ (.head _))
    · exact hop q hq
  change Fr g L' h₂ (mput "room" (some (.int room tr)) (mput "lexer" (some (.ref G.x)) mnil)) at F₂
  try dsimp only
  show wpAny _ _ _ _ _ _
  k_fold
  try (refine Mine.set_walk ?_; intro A₉ e₉)
  k_steps
  rename Fr _ _ _ _ => Fn
  rename News _ _ _ _ => Nn
  have MX1 : ∀ {wd : List Nat} {tw : Tok} {m' : Str → Option Value} {wl : Addr}, AllEq m' (t1Map wd tw wl room tr G.x) ["word", "words", "room", "lexer"] → (∀ y, Off y ["word", "words", "room", "lexer"] → m' y = none) → m' = t1Map wd tw wl room tr G.x := fun h1 h2 => mext _ h1 fun y hy => by
    rw [h2 y hy]; simp only [Off] at hy; simp [t1Map, mput, mnil, hy]
  refine' Mine.while_J (fun _ => T1J w.params G own pk toks room tr) toks.length Fn Nn ?hj ?turn
  case hj => exact T1J.mk (done := []) hT rfl (mext ["word", "words", "room", "lexer"] ⟨rfl, rfl, rfl, rfl, trivial⟩ (by intro y hy; simp only [Off] at hy; simp [t1Map, mput, mnil, hy])) .nil (by assumption) hlen (by omega) (by omega) (‹_ ∧ _ ∧ _ ∧ _ ∧ _ ∧ _ ∧ AllLt _ own›).2.2.2.2.2.2
  case turn =>
    rintro n m₁ nx h tk ⟨done, wd, chs', wvs, svs', wk, k', ln', t5', tw, wl, rfl, rfl, hw, hs, hl, o1, o2, o3, hd9⟩ F₃ N₃
    clear Fn Nn
    have hwl : wvs.length = done.length := by rw [hw.length, List.length_map]
    rcases hd9 with ⟨hne, rest, ht, hT', rfl⟩ | ⟨rfl, rfl, rfl, rfl⟩
    · have hne9 : (stOf wd != Str.ofString "") = true := by
        rw [bne_iff_ne]; intro e; exact hne (show (stOf wd).cps.toList = [] by rw [e]; rfl)
      have hlt9 : done.length + (rest.length + 1) ≤ 100 := by rw [ht] at hnt; simpa using hnt
      k_steps
      rename Fr _ _ _ _ => Fz
      rename News _ _ _ _ => Nz
      try rw [List.push_toArray] at Nz
      exact WEnd.intro _ rest.length Fz Nz sub_self (Nat.lt_succ_self _) (T1J.mk (done := done ++ [wd]) hT' (by rw [ht, List.append_assoc]; rfl) (MX1 ⟨rfl, rfl, rfl, rfl, trivial⟩ (by intro y hy; simp only [Off] at hy; simp [t1Map, mput, mnil, hy])) (by rw [List.map_append]; exact hw.snoc) (by assumption) hl o1 o2 o3)
    · have hN3 := N₃
      k_steps
      clear hN3
      rename Fr _ _ _ _ => Fn
      rename News _ _ _ _ => Nn
      refine' Mine.list_J (T2J w.params G own svs' wvs k' ln' t5' wl room tr) ?hh Fn Nn ?hlo ?hj ?turn ?done
      case hh => rfl
      case hlo => exact List.forall_mem_cons.mpr ⟨Nat.ne_of_lt o2, List.forall_mem_cons.mpr ⟨neN (by dsimp only; omega), List.forall_mem_cons.mpr ⟨neN (by dsimp only; omega), List.forall_mem_cons.mpr ⟨neN (by dsimp only; omega), List.forall_mem_cons.mpr ⟨neN (by dsimp only; omega), List.forall_mem_cons.mpr ⟨Nat.ne_of_lt o1, ne_of_allLt o3⟩⟩⟩⟩⟩⟩
      case hj => exact ⟨_, pk, mext ["word", "words", "room", "lexer"] ⟨rfl, rfl, rfl, rfl, trivial⟩ (by intro y hy; simp only [Off] at hy; simp [t1Map, t2Map, mput, mnil, hy]), rfl⟩
      case turn =>
        rintro i v m₁ nx h tk own' hv hfx hoff ⟨vw, pk', rfl, rfl⟩ F₄ N₄
        simp only [List.cons_append] at N₄
        clear Fn Nn
        have hi9 : i < wvs.length := by
          have := (Array.getElem?_eq_some_iff.mp hv).1
          rwa [List.size_toArray] at this
        have hz9 : (wvs.take i).length ≤ 1000 := by rw [List.length_take]; omega
        have ho2 : OwnOff (own ++ own') [G.d, G.sg, G.pb] := fun q hq r hr => by
          rcases List.mem_append.mp hq with hq | hq
          · exact ho q hq r hr
          · simp only [List.mem_cons, List.not_mem_nil, or_false] at hr
            rcases hr with rfl | rfl | rfl
            · exact (hoff _ (.tail _ (.head _)) q hq).symm
            · exact (hoff _ (.tail _ (.tail _ (.tail _ (.tail _ (.head _))))) q hq).symm
            · exact (hoff _ (.tail _ (.tail _ (.tail _ (.tail _ (.tail _ (.head _)))))) q hq).symm
        have hv2 : wvs[i]? = some v := by simpa using hv
        obtain ⟨xw, txw, rfl, _⟩ := hw.get hv2
        k_steps
        rename Fr _ _ _ _ => Fz
        rename News _ _ _ _ => Nz
        rw [← take_snoc hv2] at Nz
        refine JEnd.intro (lexLed w.params G ln' t5' svs' k' ((G.pb, W.listOf (wvs.take (i + 1)).toArray (pk' + 1)) :: own)) Fz Nz ?_ ?_ ?_ ⟨some (.str xw txw), _, mext ["word", "words", "room", "lexer"] ⟨rfl, rfl, rfl, rfl, trivial⟩ (by intro y hy; simp only [Off] at hy; simp [t2Map, mput, mnil, hy]), rfl⟩
        · exact sub_cons (by k_mem) (sub_cons (by k_mem) (sub_cons (by k_mem) (sub_cons (by k_mem) (sub_cons (by k_mem) (sub_cons (by k_mem) fun q hq => .tail _ (.tail _ (.tail _ (.tail _ (.tail _ (.tail _ (List.mem_append_left _ hq)))))))))))
        · exact fun q hq => .tail _ (.tail _ (.tail _ (.tail _ (.tail _ (.tail _ (List.mem_append_right _ hq))))))
        · intro q hq
          simp only [List.mem_cons] at hq
          rcases hq with rfl | rfl | rfl | rfl | rfl | rfl | hq
          · exact hoff _ (.head _)
          · exact hoff _ (.tail _ (.head _))
          · exact hoff _ (.tail _ (.tail _ (.head _)))
          · exact hoff _ (.tail _ (.tail _ (.tail _ (.head _))))
          · exact hoff _ (.tail _ (.tail _ (.tail _ (.tail _ (.head _)))))
          · exact hoff (G.pb, W.listOf (wvs.take i).toArray pk') (.tail _ (.tail _ (.tail _ (.tail _ (.tail _ (.head _))))))
          · exact hoff _ (.tail _ (.tail _ (.tail _ (.tail _ (.tail _ (.tail _ hq))))))
      case done =>
        have hsv4 := hs
        rintro m₁ nx h tk ⟨vw, pk', rfl, rfl⟩ F₄ N₄
        rw [List.size_toArray, List.take_length] at N₄
        clear Fn Nn
        k_steps
        rename Fr _ _ _ _ => Fn
        rename News _ _ _ _ => Nn
        have hwq : StrsAre wvs (wds.map wdStr) := by
          have : toks.map stOf = wds.map wdStr := by rw [hwd, List.map_map]; rfl
          rw [← this]; exact hw
        have hwn : wvs.length = wds.length := by rw [hwq.length, List.length_map]
        subst hroom
        rw [hwn] at Fn
        refine' Mine.while_J (fun _ => T3J w.params G own rm tr Fin) nn Fn (News.drop5 Nn) ?hj ?turn
        case hj =>
          refine T3J.mk (vth := none) (vv := none) (vn := none) (vst := none) (vh := none) (tvs := []) (hvs := []) ⟨wds, 0, wds.length, [], []⟩ hrun (mext ["there", "value", "name", "stays", "here", "told", "window", "taken", "pushed", "word", "words", "room", "lexer"] ⟨rfl, rfl, rfl, rfl, rfl, rfl, rfl, rfl, rfl, rfl, rfl, rfl, rfl, trivial⟩ (by intro y hy; simp only [Off] at hy; simp [t2Map, t3Map, mput, mnil, hy])) hsv4 .nil .nil hwq (fun _ h => h) ?_ (by refine ⟨?_, ?_, ?_, ?_, ?_⟩ <;> omega)
          · intro q hq a ha
            simp only [List.mem_cons, List.not_mem_nil, or_false] at ha
            have h1 := ltN (allLt_mem own o3 q hq)
            rcases ha with rfl | rfl | rfl | rfl | rfl
            · exact ho q hq _ (.head _)
            · exact ho q hq _ (.tail _ (.head _))
            · exact ho q hq _ (.tail _ (.tail _ (.head _)))
            · exact neN (by omega)
            · exact neN (by omega)
        case turn =>
          rintro n m₁ nx h tk ⟨S, vth, vv, vn, vst, vh, vw', tl, hl', wi, wd', wl', ttk, tpu, th, t5', tvs, hvs, qvs, svs', tk', hk', qz, k', ln', tail, hrn, rfl, rfl, hsg, htv, hpv, hqv, hot, hof, hlt⟩ F₅ N₅
          clear Fn Nn
          obtain ⟨f0, f1, f2, f3, f4, f5, f6, f7, f8, f9, f10, f11, f12, f13, f14, f15, f16, f17, f18, f19, f20, f21, f22, f23, f24, f25, f26, f27, f28, f29⟩ := winNe hO hxp hlt
          obtain ⟨b1, _, b2, b3, b4⟩ := id hlt
          cases hrn with
          | done ok hq0 =>
            have hbal := ok.bal
            rw [hq0, List.length_nil] at hbal
            have hwl9 := ok.wl
            have htl9 := ok.tl
            have hhl := hpv.length
            rw [List.length_map] at hhl
            have htvl := htv.length
            rw [List.length_map] at htvl
            rw [hq0] at hqv
            cases hqv
            have O2 : LexOk PySem.Challenge.pw_pg0318_03 w (Mine.hdm.heap_1 w.params) p loose mean mg mb G tail := ⟨O.reads.mono hot, hot _ O.rf, O.dict, fun q hq r hr => hof q hq r (by
              simp only [List.mem_cons, List.not_mem_nil, or_false] at hr ⊢
              rcases hr with h | h
              · exact .inl h
              · exact .inr (.inl h)), O.lt⟩
            have hz0 : ([] : List Nat).length ≤ 1000 := Nat.zero_le _
            k_steps
            rename Fr _ _ _ _ => Fz
            rename News _ _ _ _ => Nz
            obtain ⟨F', K', N'⟩ := leave_S [G.d, G.sg, G.pb] F N hsub hgk Fz Nz (List.forall_mem_cons.mpr ⟨.inl (by k_mem), List.forall_mem_cons.mpr ⟨.inr (.head _), List.forall_mem_cons.mpr ⟨.inl (by k_mem), List.forall_mem_cons.mpr ⟨.inl (by k_mem), List.forall_mem_cons.mpr ⟨.inr (.tail _ (.head _)), List.forall_mem_cons.mpr ⟨.inr (.tail _ (.tail _ (.head _))), fun q hq => .inl (by have := hot q hq; repeat (first | exact this | refine List.Mem.tail _ ?_))⟩⟩⟩⟩⟩⟩)
            exact ret _ _ _ _ _ _ _ _ F' K' (News.sub N' (sub_cons (by k_mem) (sub_cons (by k_mem) sub_nil))) (by assumption) (by assumption) (by assumption)
          | @step _ _ q0 qs n0 ok hq0 hrun' =>
            have hbal := ok.bal
            rw [hq0, List.length_cons] at hbal
            rw [hq0] at hqv
            cases hqv with
            | @cons _ tq qvs' _ hqv' =>
              have hqw := ok.q q0 (by rw [hq0]; exact .head _)
              have hql : qs.length + 1 ≤ 100 := by have := ok.ql; rwa [hq0, List.length_cons] at this
              have hqvl : qvs'.length = qs.length := by rw [hqv'.length, List.length_map]
              have hq1 := hqw.1.2
              have hsl : (wdStr q0).length ≤ 100 := by unfold wdStr; rw [st_len, List.length_append, List.length_singleton]; omega
              have hhl := hpv.length
              rw [List.length_map] at hhl
              have hwl9 := ok.wl
              k_steps
              rename Fr _ _ _ _ => Fi
              rename News _ _ _ _ => Ni
              rename WsIn _ _ _ _ => Wi
              rw [wsOf_wd hqw] at Ni Wi
              obtain ⟨x9, hx9, Wn⟩ := WsIn.name Wi
              subst hx9
              obtain ⟨T, hT, NT⟩ := News.turn9 Ni
              have htT : ∀ q ∈ tail, q ∈ T := by
                rw [hT]; exact fun q hq => .tail _ (.tail _ (.tail _ (.tail _ (.tail _ (.tail _ (.tail _ (.tail _ (.tail _ (.tail _ hq)))))))))
              have hoT : OwnOff T [hl', tl] := by
                rw [hT]
                exact off_hi hlt.2.2.2.2 (by dsimp only; omega) (off_hi hlt.2.2.2.2 (by dsimp only; omega) (off_hi hlt.2.2.2.2 (by dsimp only; omega) (off_hi hlt.2.2.2.2 (by dsimp only; omega) (off_lo hlt.2.2.2.2 (by dsimp only; omega) (off_lo hlt.2.2.2.2 (by dsimp only; omega) (off_lo hlt.2.2.2.2 (by dsimp only; omega) (off_lo hlt.2.2.2.2 (by dsimp only; omega) (off_lo hlt.2.2.2.2 (by dsimp only; omega) (off_lo hlt.2.2.2.2 (by dsimp only; omega) (fun q hq r hr => hof q hq r (.tail _ (.tail _ (.tail _ hr)))))))))))))
              have hWT : WsIn w.params T x9 (wsL q0.1) := WsIn.mono Wn (by
                rw [hT]; exact sub_cons (.head _) (sub_cons (.tail _ (.head _)) (sub_cons (.tail _ (.tail _ (.head _))) (sub_cons (.tail _ (.tail _ (.tail _ (.head _)))) sub_nil))))
              refine' Mine.list_J (InJ w.params T tail S q0.1 tl hl' wi wd' wl' x9 G.x tpu th (some (.str (wdStr q0) tq)) (rm : Int) tr) ?ihh Fi NT ?ihlo ?ihj ?iturn ?idone
              case ihh => rfl
              case ihlo =>
                obtain ⟨a1, a2, a3, a4, a5, a6, a7, a8, a9, b1, b2, b3, b4, b5, b6⟩ := ‹_ ∧ _ ∧ _ ∧ _ ∧ _ ∧ _ ∧ _ ∧ _ ∧ _ ∧ _ ∧ _ ∧ _ ∧ _ ∧ _ ∧ OffL _ tail›
                rw [hT]
                exact List.forall_mem_cons.mpr ⟨a5, List.forall_mem_cons.mpr ⟨a6, List.forall_mem_cons.mpr ⟨a7, List.forall_mem_cons.mpr ⟨a8, List.forall_mem_cons.mpr ⟨a1, List.forall_mem_cons.mpr ⟨a2, List.forall_mem_cons.mpr ⟨a3, List.forall_mem_cons.mpr ⟨a4, List.forall_mem_cons.mpr ⟨a9, List.forall_mem_cons.mpr ⟨b1, List.forall_mem_cons.mpr ⟨b2, List.forall_mem_cons.mpr ⟨b3, List.forall_mem_cons.mpr ⟨b4, List.forall_mem_cons.mpr ⟨b5, offL_mem b6⟩⟩⟩⟩⟩⟩⟩⟩⟩⟩⟩⟩⟩⟩
              case ihj => exact ⟨vth, vv, vn, true, _, tvs, hvs, tk', hk', mext ["there", "value", "name", "stays", "here", "told", "window", "taken", "pushed", "word", "words", "room", "lexer"] ⟨rfl, rfl, rfl, rfl, rfl, rfl, rfl, rfl, rfl, rfl, rfl, rfl, rfl, trivial⟩ (by intro y hy; simp only [Off] at hy; simp [t3Map, mput, mnil, hy]), rfl, rfl, htv, hpv⟩
              case iturn =>
                clear hT
                rintro i v m₁ nx h tk own' hv hmem hoff ⟨vth, vv, vn, tst, ttk', tvs', hvs', tk', hk', rfl, hst, rfl, htv', hpv'⟩ F₆ N₆
                simp only [List.cons_append] at N₆
                clear Fi Ni NT Wi Wn
                have hv2 : hvs[i]? = some v := by simpa using hv
                obtain ⟨t, n9, u9, tn, tu, rfl, hps, htm⟩ := hpv.get hv2
                rw [List.getElem?_map] at hps
                obtain ⟨e, he, hen⟩ := Option.map_eq_some_iff.mp hps
                cases hen
                have hi9 : i < S.win.length := (List.getElem?_eq_some_iff.mp he).1
                have hew := ok.w e (List.mem_of_getElem? he)
                have hvl : (valS e).length ≤ 100 := val_len hew
                have hil := in_len (S := S) (lead := q0.1) (Nat.le_of_lt hi9)
                have hok1 : (wsOf (valS e)).2.2.2.length ≤ 101 ∧ (wsOf (valS e)).2.1 ≤ 101 := by rw [wsOf_val hew]; exact wsL_ok hew.1
                have hok2 := wsL_ok hqw.1
                have htl9 := ok.tl
                have htl8 := htv'.length
                have hhl8 := hpv'.length
                rw [List.length_map] at htl8 hhl8
                have hpn : ∀ q ∈ ((inAt S q0.1 i).1.map entP), q.1.length ≤ 100 := fun q hq => by
                  obtain ⟨e', _, rfl⟩ := List.mem_map.mp hq
                  exact (by decide : 1 ≤ 100)
                have hto : ∀ q ∈ tail, q.1 ≠ hl' := fun q hq => hoT q (htT q hq) _ (.head _)
                have htT2 : ∀ q ∈ tail, q ∈ T ++ own' := fun q hq => List.mem_append_left _ (htT q hq)
                have hlo : ∀ c ∈ (Txt.lower (stOf [e.c])).cps.toList, okN c = true := fun c hc => by
                  rw [(low1 hew.2.1 hew.2.2.1).1] at hc
                  rw [show c = e.c from List.mem_singleton.mp hc]; exact (low1 hew.2.1 hew.2.2.1).2
                have hnl : (stOf [e.c]).length ≤ 100 := (by decide : 1 ≤ 100)
                have hit := val_int hew
                have hitl := val_fromlen hew
                have ho3 : OwnOff (T ++ own') [hl', tl] := fun q hq r hr => by
                  rcases List.mem_append.mp hq with hq | hq
                  · exact hoT q hq r hr
                  · simp only [List.mem_cons, List.not_mem_nil, or_false] at hr
                    rcases hr with rfl | rfl
                    · exact (hoff _ (.tail _ (.head _)) q hq).symm
                    · exact (hoff _ (.head _) q hq).symm
                have htm2 : (t, tup2 (.str (stOf [e.c]) tn) (.str (valS e) tu)) ∈ T ++ own' := htT2 _ htm
                k_steps
                · try clear qk
                  rename Fr _ _ _ _ => Fz
                  rename News _ _ _ _ => Nz
                  rename_i h9 tk9 vs9 k9 P9 hl9
                  try rw [List.push_toArray] at Nz
                  have hi1 := inAt_t (lead := q0.1) he (by with_reducible assumption)
                  refine InJ.fin (tvs' := tvs' ++ [.str (stOf [e.c]) tn]) (tk' := tk' + 1) (hvs' := vs9) (hk' := k9) Fz Nz (mext ["there", "value", "name", "stays", "here", "told", "window", "taken", "pushed", "word", "words", "room", "lexer"] ⟨rfl, rfl, rfl, rfl, rfl, rfl, rfl, rfl, rfl, rfl, rfl, rfl, rfl, trivial⟩ (by intro y hy; simp only [Off] at hy; simp [t3Map, mput, mnil, hy])) hoff ?_ ?_ ?_ ?_ ?_
                  · refine sub_cons (by k_mem) (sub_cons (by k_mem) (sub_cons (by k_mem) (sub_cons (by k_mem) (fun q hq => ?_))))
                    repeat (first | exact List.mem_append_left _ hq | refine List.Mem.tail _ ?_)
                  · intro q hq
                    repeat (first | exact List.mem_append_right _ hq | refine List.Mem.tail _ ?_)
                  · rw [hi1]; exact hst
                  · rw [hi1]; rw [List.map_append]; exact htv'.snoc
                  · rw [hi1]; have hfm := filt_map ⟨hew.2.1, hew.2.2.1⟩ (inAt S q0.1 i).1 (fun e' h' => ⟨(ok.w e' (in_sub e' h')).2.1, (ok.w e' (in_sub e' h')).2.2.1⟩); rw [← hfm]; exact P9
                · try clear qk
                  rename Fr _ _ _ _ => Fz
                  rename News _ _ _ _ => Nz
                  have hi1 := inAt_f he hew (by with_reducible assumption) (by with_reducible assumption)
                  refine InJ.fin (tvs' := tvs') (tk' := tk') (hvs' := hvs') (hk' := hk') Fz Nz (mext ["there", "value", "name", "stays", "here", "told", "window", "taken", "pushed", "word", "words", "room", "lexer"] ⟨rfl, rfl, rfl, rfl, rfl, rfl, rfl, rfl, rfl, rfl, rfl, rfl, rfl, trivial⟩ (by intro y hy; simp only [Off] at hy; simp [t3Map, mput, mnil, hy])) hoff ?_ ?_ ?_ ?_ ?_
                  · refine sub_cons (by k_mem) (sub_cons (by k_mem) (sub_cons (by k_mem) (sub_cons (by k_mem) (fun q hq => ?_))))
                    repeat (first | exact List.mem_append_left _ hq | refine List.Mem.tail _ ?_)
                  · intro q hq
                    repeat (first | exact List.mem_append_right _ hq | refine List.Mem.tail _ ?_)
                  · rw [hi1]
                  · rw [hi1]; exact htv'
                  · rw [hi1]; exact hpv'
                · try clear qk
                  rename Fr _ _ _ _ => Fz
                  rename News _ _ _ _ => Nz
                  rename_i h9 tk9 vs9 k9 P9 hl9
                  have hi1 := inAt_d he hew (by with_reducible assumption) (by with_reducible assumption) (by with_reducible assumption)
                  refine InJ.fin (tvs' := tvs') (tk' := tk') (hvs' := vs9) (hk' := k9) Fz Nz (mext ["there", "value", "name", "stays", "here", "told", "window", "taken", "pushed", "word", "words", "room", "lexer"] ⟨rfl, rfl, rfl, rfl, rfl, rfl, rfl, rfl, rfl, rfl, rfl, rfl, rfl, trivial⟩ (by intro y hy; simp only [Off] at hy; simp [t3Map, mput, mnil, hy])) hoff ?_ ?_ ?_ ?_ ?_
                  · refine sub_cons (by k_mem) (sub_cons (by k_mem) (sub_cons (by k_mem) (sub_cons (by k_mem) (fun q hq => ?_))))
                    repeat (first | exact List.mem_append_left _ hq | refine List.Mem.tail _ ?_)
                  · intro q hq
                    repeat (first | exact List.mem_append_right _ hq | refine List.Mem.tail _ ?_)
                  · rw [hi1]; exact hst
                  · rw [hi1]; exact htv'
                  · rw [hi1]; have hfm := filt_map ⟨hew.2.1, hew.2.2.1⟩ (inAt S q0.1 i).1 (fun e' h' => ⟨(ok.w e' (in_sub e' h')).2.1, (ok.w e' (in_sub e' h')).2.2.1⟩); rw [← hfm]; exact P9
                · try clear qk
                  rename Fr _ _ _ _ => Fz
                  rename News _ _ _ _ => Nz
                  have hi1 := inAt_n he hew (by with_reducible assumption) (by with_reducible assumption) (by with_reducible assumption)
                  refine InJ.fin (tvs' := tvs') (tk' := tk') (hvs' := hvs') (hk' := hk') Fz Nz (mext ["there", "value", "name", "stays", "here", "told", "window", "taken", "pushed", "word", "words", "room", "lexer"] ⟨rfl, rfl, rfl, rfl, rfl, rfl, rfl, rfl, rfl, rfl, rfl, rfl, rfl, trivial⟩ (by intro y hy; simp only [Off] at hy; simp [t3Map, mput, mnil, hy])) hoff ?_ ?_ ?_ ?_ ?_
                  · refine sub_cons (by k_mem) (sub_cons (by k_mem) (sub_cons (by k_mem) (sub_cons (by k_mem) (fun q hq => ?_))))
                    repeat (first | exact List.mem_append_left _ hq | refine List.Mem.tail _ ?_)
                  · intro q hq
                    repeat (first | exact List.mem_append_right _ hq | refine List.Mem.tail _ ?_)
                  · rw [hi1]; exact hst
                  · rw [hi1]; exact htv'
                  · rw [hi1]; exact hpv'
              case idone =>
                rintro m₁ nx h tk ⟨vth', vv', vn', tst, ttk', tvs', hvs', tk', hk', rfl, hst, rfl, htv', hpv'⟩ F₆ N₆
                replace N₆ := News.sub N₆ fun q hq => List.Mem.tail _ hq
                clear Fi Ni NT Wi Wn hWT hoT htT
                subst hT
                rw [List.size_toArray, hhl] at hst htv' hpv'
                have hil := in_len (S := S) (lead := q0.1) (Nat.le_refl _)
                have hsub9 := in_sub (S := S) (lead := q0.1) (i := S.win.length)
                rw [inAt_all] at hst htv' hpv' hil hsub9
                unfold outStep at hrun'
                generalize inF (S.taken + 1) q0.1 S.win S.told = r at hst htv' hpv' hil hsub9 hrun'
                have hhl8 := hpv'.length
                rw [List.length_map] at hhl8
                have hpu := ok.pu
                have hq0c := hqw.2
                have hwn : Txt.slice (wdStr q0) (some ((wsL q0.1).1 : Int)) none = stOf [q0.2] := wd_from hqw
                have hko : ∀ c ∈ (Txt.lower (Txt.slice (wdStr q0) (some ((wsL q0.1).1 : Int)) none)).cps.toList, okN c = true := by
                  rw [hwn, (low1 hq0c.1 hq0c.2).1]; intro c hc; rw [List.mem_singleton.mp hc]; exact (low1 hq0c.1 hq0c.2).2
                have hka : ∀ c ∈ (Txt.slice (wdStr q0) (some ((wsL q0.1).1 : Int)) none).cps.toList, okN c = true := by
                  rw [hwn]; intro c hc; rw [List.mem_singleton.mp hc]; exact (low1 hq0c.1 hq0c.2).2
                have hkw : (Txt.slice (wdStr q0) (some ((wsL q0.1).1 : Int)) none).length ≤ 100 := by rw [hwn]; exact (by decide : 1 ≤ 100)
                have hkb : ∀ c ∈ (Txt.slice (wdStr q0) none (some ((wsL q0.1).1 : Int)) ++ Str.ofString (toString (S.pushed : Int))).cps.toList, okV c = true := by
                  rw [newV hqw]; exact val_okV hqw.1 hpu
                have hkc : (Txt.slice (wdStr q0) none (some ((wsL q0.1).1 : Int)) ++ Str.ofString (toString (S.pushed : Int))).length ≤ 1000 := by
                  rw [newV hqw]; exact Nat.le_trans (val_len (e := ⟨q0.2, q0.1, S.pushed⟩) ⟨hqw.1, hq0c.1, hq0c.2, hpu⟩) (by decide)
                have hpn : ∀ q ∈ (r.1.map entP), q.1.length ≤ 100 := fun q hq => by
                  obtain ⟨e', _, rfl⟩ := List.mem_map.mp hq
                  exact (by decide : 1 ≤ 100)
                have hto : ∀ q ∈ tail, q.1 ≠ hl' := fun q hq => hof q hq _ (.tail _ (.tail _ (.tail _ (.head _))))
                cases tst with
                | false =>
                  rw [if_neg (fun z => by rw [← hst] at z; exact absurd z.1 (by decide)), if_neg (fun z => by rw [← hst] at z; exact absurd z (by decide))] at hrun'
                  k_steps
                  rename Fr _ _ _ _ => Fz
                  rename News _ _ _ _ => Nz
                  refine WEnd.intro ((tl, W.listOf tvs'.toArray tk') :: (hl', W.listOf hvs'.toArray hk') :: (wi, instObj 279 wd') :: (wd', hdDict w.params th hl') :: lexLed w.params G ln' t5' svs' k' ((G.pb, W.listOf qvs'.toArray (qz + 1)) :: tail)) n0 Fz Nz (sub_cons (by k_mem) (sub_cons (by k_mem) (sub_cons (by k_mem) (sub_cons (by k_mem) (fun q hq => by repeat (first | exact hq | refine List.Mem.tail _ ?_)))))) (Nat.lt_succ_self _) (T3J.mk _ hrun' (mext ["there", "value", "name", "stays", "here", "told", "window", "taken", "pushed", "word", "words", "room", "lexer"] ⟨rfl, rfl, rfl, rfl, rfl, rfl, rfl, rfl, rfl, rfl, rfl, rfl, rfl, trivial⟩ (by intro y hy; simp only [Off] at hy; simp [t3Map, mput, mnil, hy])) hsg htv' hpv' hqv' hot hof hlt)
                | true =>
                  k_steps
                  · try clear qk
                    rename Fr _ _ _ _ => Fz
                    rename News _ _ _ _ => Nz
                    rename_i h9 tk9 vs9 k9 tp9 P9 o9
                    have hlr : r.1.length < rm := by omega
                    rw [if_pos ⟨hst.symm, hlr⟩] at hrun'
                    rw [hwn, newV hqw, filt_map hq0c r.1 (fun e' h' => ⟨(ok.w e' (hsub9 e' h')).2.1, (ok.w e' (hsub9 e' h')).2.2.1⟩)] at P9
                    rw [hwn, newV hqw] at Nz
                    obtain ⟨_, otl, ohl, _, _, _, _, _, _, _, od, _, _, osg, opb, _⟩ := o9
                    refine WEnd.intro ((tl, W.listOf tvs'.toArray tk') :: (hl', W.listOf vs9.toArray k9) :: (wi, instObj 279 wd') :: (wd', hdDict w.params th hl') :: lexLed w.params G ln' t5' svs' k' ((G.pb, W.listOf qvs'.toArray (qz + 1)) :: _ :: tail)) n0 Fz Nz ?_ (Nat.lt_succ_self _) (T3J.mk _ hrun' (mext ["there", "value", "name", "stays", "here", "told", "window", "taken", "pushed", "word", "words", "room", "lexer"] ⟨rfl, rfl, rfl, rfl, rfl, rfl, rfl, rfl, rfl, rfl, rfl, rfl, rfl, trivial⟩ (by intro y hy; simp only [Off] at hy; simp [t3Map, mput, mnil, hy])) hsg htv' (by rw [List.map_append]; exact P9) hqv' (fun q hq => .tail _ (hot q hq)) ?_ hlt)
                    · refine sub_cons (by k_mem) (sub_cons (by k_mem) (sub_cons (by k_mem) (sub_cons (by k_mem) (sub_cons (by k_mem) (sub_cons (by k_mem) (sub_cons (by k_mem) (sub_cons (by k_mem) (sub_cons (by k_mem) (sub_cons (by k_mem) (sub_cons (.head _) (fun q hq => by repeat (first | exact hq | refine List.Mem.tail _ ?_))))))))))))
                    · intro q hq a ha
                      rcases List.mem_cons.mp hq with rfl | hq
                      · simp only [List.mem_cons, List.not_mem_nil, or_false] at ha
                        rcases ha with rfl | rfl | rfl | rfl | rfl
                        · exact od.symm
                        · exact osg.symm
                        · exact opb.symm
                        · exact ohl.symm
                        · exact otl.symm
                      · exact hof q hq a ha
                  · try clear qk
                    rename Fr _ _ _ _ => Fz
                    rename News _ _ _ _ => Nz
                    have hlr : ¬ r.1.length < rm := by omega
                    rw [if_neg (fun z => hlr z.2), if_pos hst.symm] at hrun'
                    refine WEnd.intro ((tl, W.listOf tvs'.toArray tk') :: (hl', W.listOf hvs'.toArray hk') :: (wi, instObj 279 wd') :: (wd', hdDict w.params th hl') :: lexLed w.params G ln' t5' svs' k' ((G.pb, W.listOf (qvs' ++ [Value.str (wdStr q0) tq]).toArray (qz + 1 + 1)) :: tail)) n0 Fz Nz ?_ (Nat.lt_succ_self _) (T3J.mk _ hrun' (mext ["there", "value", "name", "stays", "here", "told", "window", "taken", "pushed", "word", "words", "room", "lexer"] ⟨rfl, rfl, rfl, rfl, rfl, rfl, rfl, rfl, rfl, rfl, rfl, rfl, rfl, trivial⟩ (by intro y hy; simp only [Off] at hy; simp [t3Map, mput, mnil, hy])) hsg htv' hpv' (by rw [List.map_append]; exact hqv'.snoc) hot hof hlt)
                    refine sub_cons (by k_mem) (sub_cons (by k_mem) (sub_cons (by k_mem) (sub_cons (by k_mem) (sub_cons (by k_mem) (sub_cons (by k_mem) (sub_cons (by k_mem) (sub_cons (by k_mem) (sub_cons (by k_mem) (sub_cons (by k_mem) (fun q hq => by repeat (first | exact hq | refine List.Mem.tail _ ?_)))))))))))
end
end Mine

theorem Mine.tt_p_leads : True := by w_top off; exact trivial
namespace Mine
-- U-WHOLE
-- LAW 03: _law_leads
def numLead (n : Int) : List Nat × Nat :=
  ((List.range ((n % 160).toNat % 5)).map (fun k => if (n % 160).toNat / 5 / 2 ^ k % 2 = 0 then 32 else 9), (n % 160).toNat / 80)
def lawLeads (sc : List Int) : List (List Nat × Nat) := (12 :: 87 :: 6 :: sc.take 3).map numLead
inductive LeadsIn (led : List (Addr × Obj)) : List Value → List (List Nat × Nat) → Prop where
  | nil : LeadsIn led [] []
  | cons {t : Addr} {q : List Nat × Nat} {tn tv : Tok} {vs : List Value} {ps : List (List Nat × Nat)} : (t, tup2 (.str (stOf q.1) tn) (.int (q.2 : Int) tv)) ∈ led → LeadsIn led vs ps → LeadsIn led (.ref t :: vs) (q :: ps)
theorem LeadsIn.mono {led led' : List (Addr × Obj)} {vs : List Value} {ps : List (List Nat × Nat)} (h : LeadsIn led vs ps) (k : ∀ p ∈ led, p ∈ led') : LeadsIn led' vs ps := by
  induction h with
  | nil => exact .nil
  | cons hm _ ih => exact .cons (k _ hm) ih
theorem LeadsIn.length {led : List (Addr × Obj)} {vs : List Value} {ps : List (List Nat × Nat)} (h : LeadsIn led vs ps) : vs.length = ps.length := by
  induction h with
  | nil => rfl
  | cons _ _ ih => rw [List.length_cons, List.length_cons, ih]
theorem LeadsIn.get {led : List (Addr × Obj)} {vs : List Value} {ps : List (List Nat × Nat)} (h : LeadsIn led vs ps) : ∀ {i : Nat} {q : List Nat × Nat}, ps[i]? = some q → ∃ t tn tu, vs[i]? = some (.ref t) ∧ (t, tup2 (.str (stOf q.1) tn) (.int (q.2 : Int) tu)) ∈ led := by
  induction h with
  | nil => intro i v h; simp at h
  | cons hm _ ih =>
    intro i v h
    cases i with
    | zero => simp at h; subst h; exact ⟨_, _, _, rfl, hm⟩
    | succ i => exact ih (by simpa using h)
theorem LeadsIn.snoc {led : List (Addr × Obj)} {vs : List Value} {ps : List (List Nat × Nat)} {t : Addr} {q : List Nat × Nat} {tn tv : Tok} (h : LeadsIn led vs ps) (hm : (t, tup2 (.str (stOf q.1) tn) (.int (q.2 : Int) tv)) ∈ led) : LeadsIn led (vs ++ [.ref t]) (ps ++ [q]) := by
  induction h with
  | nil => exact .cons hm .nil
  | cons h1 _ ih => exact .cons h1 ih
abbrev ldMap (vk vl vx vn : Option Value) (ld sc : Addr) : Str → Option Value :=
  mput "k" vk (mput "lead" vl (mput "x" vx (mput "number" vn (mput "leads" (some (.ref ld)) (mput "script" (some (.ref sc)) mnil)))))
def LdJ (sc : Addr) (nums : List Int) (i : Nat) (m₁ : Str → Option Value) (nx : List (Addr × Obj)) : Prop :=
  ∃ vk vl vx vn ld lvs k tl, m₁ = ldMap vk vl vx vn ld sc ∧ nx = (ld, W.listOf lvs.toArray k) :: tl ∧ LeadsIn tl lvs ((nums.take i).map numLead) ∧ OwnOff tl [ld]
def LdK (xn : Nat) (n : Int) (tn : Tok) (ld sc : Addr) (led : List (Addr × Obj)) (i : Nat) (m₁ : Str → Option Value) (nx : List (Addr × Obj)) : Prop :=
  ∃ vk tl tx, m₁ = ldMap vk (some (.str (stOf ((List.range i).map fun k => if xn / 5 / 2 ^ k % 2 = 0 then 32 else 9)) tl)) (some (.int (xn : Int) tx)) (some (.int n tn)) ld sc ∧ nx = led
local macro_rules | `(tactic| walk_at "exec For Name BinOp cons nil") => `(tactic| walk_at "forJ")
local macro_rules | `(tactic| walk_at "α") => `(tactic| (rw [sizeLine_eq]; (try simp only [Mine.st_len, List.length_map, List.length_range]); omega))
local macro_rules | `(tactic| walk_at "binaryOp Add str str") => Mine.ln `PyProof.Rows.add_str 0 1 false "Aα" none 0 0 "Iab"
local macro_rules | `(tactic| walk_at "call builtin:list.append") => do
  let g := (some (← `(term| wpAny _ _ (call (Value.builtin _) [Value.ref _, _]) _ _ _)))
  Mine.ln `Mine.append_L 4 0 false "AaBaCmDo" g 0 9 "Ia U Ibc D W"
theorem lead_step (xn i : Nat) : stOf ((List.range i).map fun k => if xn / 5 / 2 ^ k % 2 = 0 then 32 else 9) ++ Txt.item (Str.ofString " \t") ((((xn : Int).fdiv 5).fdiv (2 ^ (0 + (i : Int)).toNat)).fmod 2) = stOf ((List.range (i + 1)).map fun k => if xn / 5 / 2 ^ k % 2 = 0 then 32 else 9) := by
  have e1 : (((xn : Int).fdiv 5).fdiv (2 ^ (0 + (i : Int)).toNat)).fmod 2 = ((xn / 5 / 2 ^ i % 2 : Nat) : Int) := by
    have h0 : (0 : Int) ≤ 2 ^ i := Int.pow_nonneg (by decide)
    rw [show (0 + (i : Int)).toNat = i by omega, Int.fdiv_eq_ediv_of_nonneg _ (show (0 : Int) ≤ 5 by decide), Int.fdiv_eq_ediv_of_nonneg _ h0, Int.fmod_eq_emod_of_nonneg _ (show (0 : Int) ≤ 2 by decide)]
    rw [Int.natCast_emod, Int.natCast_ediv, Int.natCast_ediv, Int.natCast_pow]; rfl
  rw [e1, List.range_succ, List.map_append, List.map_singleton]
  have h2 : xn / 5 / 2 ^ i % 2 < 2 := Nat.mod_lt _ (by decide)
  generalize xn / 5 / 2 ^ i % 2 = b at h2
  rw [← st_one]
  congr 1
  match b, h2 with
  | 0, _ => decide +kernel
  | 1, _ => decide +kernel
section
variable {w : World} {dp un : Nat} {gd : Option (List Code)} {cn : Str} {cs : Scope} {a : Addr} {ccd : Value} {cl : List (Str × Addr)} {outer : List Env} {A₀ : Around} {base h₀ : Heap} {L : Addr} {m mg mb : Str → Option Value} {p : Program} {loose : List Str} {mean : ExcName → Option Value} {s : Shared} {Q E : Value → Shared → Prop} {news : List (Addr × Obj)}
theorem leads_call {sc : Addr} {svs : List Value} {script : List Int} (B : Below A₀ base outer h₀) (F : Fr h₀ L s.heap m) (X : (Mine.hdm.heap_1 w.params).In h₀) (N : News h₀ L s.heap news) (T : Top p loose mean mg mb h₀) (hk : cs.kind = .function) (hd : dp + 5 < recursionLimit)
  (hS : h₀.IsList sc svs.toArray) (hI : IntsAre svs script) (hz : script.length ≤ 63)
  (ret : ∀ ld lvs k tl h' tk', Fr h₀ L h' m → News h₀ L h' ((ld, W.listOf lvs.toArray k) :: (news ++ tl)) → LeadsIn tl lvs (lawLeads script) → (∀ p ∈ news, ∀ q ∈ (ld, W.listOf lvs.toArray k) :: tl, p.1 ≠ q.1) → Q (.ref ld) {s with heap := h', toks := tk'}) :
  wpAny (model PySem.Challenge.pw_pg0318_03 w) (ktrTop dp un gd cn cs L a ccd cl outer) (call (.ref 290) [.ref sc]) Q E s := by
  refine wpAny_call ?_
  have N₁ : News h₀ L s.heap [] := News.sub N sub_nil
  ktr_enter
  intro g L' h₂ hgs hgk hgn F₂ N₂ B₂ X₂ T₂
  have hS₂ : g.IsList sc svs.toArray := hS.at fun o e => hgk _ _ (F.keep _ _ e) (by simp)
  clear hgs hgn B N₁
  change Fr g L' h₂ (mput "script" (some (.ref sc)) mnil) at F₂
  try dsimp only
  show wpAny _ _ _ _ _ _
  k_fold
  try (refine Mine.set_walk ?_; intro A₉ e₉)
  k_steps
  rename Fr _ _ _ _ => Fn
  rename News _ _ _ _ => Nn
  rename IntsAre _ ([12, 87, 6] ++ _) => hW
  rename_i D' ws' h9 l9
  have Ni := Mine.News.sub Nn (news' := [(D', W.listOf ws'.toArray 0), (_, W.listOf ([] : List Value).toArray 0)]) (sub_cons (by k_mem) (sub_cons (by k_mem) sub_nil))
  refine' Mine.list_J (LdJ sc (12 :: 87 :: 6 :: script.take 3)) ?hh Fn Ni ?hlo ?hj ?turn ?done
  case hh => rfl
  case hlo => exact List.forall_mem_cons.mpr ⟨Nat.ne_of_lt l9.2.2, List.forall_mem_nil _⟩
  case hj => exact ⟨none, none, none, none, _, [], 0, [], mext ["k", "lead", "x", "number", "leads", "script"] ⟨rfl, rfl, rfl, rfl, rfl, rfl, trivial⟩ (by intro y hy; simp only [Off] at hy; simp [ldMap, mput, mnil, hy]), rfl, .nil, fun q hq => nomatch hq⟩
  case done =>
    rintro m₁ nx h tk ⟨vk, vl, vx, vn, ld, lvs, kk, tl, rfl, rfl, hin, hof⟩ F₃ N₃
    have hll : ws'.toArray.size = (12 :: 87 :: 6 :: script.take 3).length := by rw [List.size_toArray, hW.length]; rfl
    rw [hll, List.take_length] at hin
    clear Fn Nn Ni
    k_steps
    rename Fr _ _ _ _ => Fz
    rename News _ _ _ _ => Nz
    obtain ⟨F', N', K'⟩ := leave F (News.sub N sub_nil) hgk Fz Nz
    have N0 := News.off N K' fun q hq h => nomatch h
    have hN3 := News.sub Nz (news' := (ld, W.listOf lvs.toArray kk) :: tl) fun q hq => .tail _ hq
    refine ret ld lvs kk tl _ _ F' (List.forall_mem_cons.mpr ⟨N' _ (.tail _ (.head _)), fun q hq => ?_⟩) hin fun p hp q hq e => ?_
    · rcases List.mem_append.mp hq with hq | hq
      · exact N0 q hq
      · exact N' q (.tail _ (.tail _ hq))
    · have := hgk _ _ (N p hp).1 (by simp)
      rw [e, (hN3 q hq).2.2] at this; cases this
  case turn =>
    rintro i v m₁ nx h tk own hv hmem hoff ⟨vk, vl, vx, vn, ld, lvs, kk, tl, rfl, rfl, hin, hof⟩ F₃ N₃
    simp only [List.cons_append] at N₃
    clear Fn Nn Ni
    have hv2 : ws'[i]? = some v := by simpa using hv
    have hi9 : i < (12 :: 87 :: 6 :: script.take 3).length := by have := (List.getElem?_eq_some_iff.mp hv2).1; rw [hW.length] at this; exact this
    obtain ⟨n, hn⟩ : ∃ n, (12 :: 87 :: 6 :: script.take 3)[i]? = some n := ⟨_, List.getElem?_eq_getElem hi9⟩
    obtain ⟨tn, hv3⟩ := hW.get _ _ hn
    obtain rfl : v = .int n tn := Option.some.inj (hv2.symm.trans hv3)
    clear hv hv2 hv3 hi9
    obtain ⟨xn, hxn, hx⟩ : ∃ xn : Nat, xn = (n % 160).toNat ∧ n.fmod 160 = (xn : Int) := ⟨_, rfl, by rw [Int.fmod_eq_emod_of_nonneg _ (by decide)]; omega⟩
    have hx5 : (xn : Int).fmod 5 = ((xn % 5 : Nat) : Int) := by rw [Int.fmod_eq_emod_of_nonneg _ (by decide)]; omega
    have hx160 : xn < 160 := by omega
    k_steps
    rename IsRange _ _ _ _ _ _ _ _ => hr
    rename Fr _ _ _ _ => Fn
    rename News _ _ _ _ => Nn
    rw [hx] at hr Fn
    rw [hx5] at hr
    refine' Mine.range_J (LdK xn n tn ld sc ((ld, W.listOf lvs.toArray kk) :: (tl ++ own))) ?ihh hr ?ha ?hb Fn Nn ?ihj ?iturn ?idone ?iht
    case ihh => rfl
    case iht => intro _ _; rfl
    case ha => omega
    case hb => omega
    case ihj => exact ⟨vk, _, _, mext ["k", "lead", "x", "number", "leads", "script"] ⟨rfl, rfl, rfl, rfl, rfl, rfl, trivial⟩ (by intro y hy; simp only [Off] at hy; simp [ldMap, mput, mnil, hy]), rfl⟩
    case iturn =>
      rintro i2 u m₁ nx h tk own2 hi2 hoff2 ⟨vk, tl2, tx, rfl, rfl⟩ F₃ N₃
      simp only [List.cons_append] at N₃
      clear Fn Nn
      have hi5 : i2 < 5 := by omega
      k_steps
      rename Fr _ _ _ _ => Fz
      rename News _ _ _ _ => Nz
      rw [lead_step] at Fz
      exact JEnd.intro ((ld, W.listOf lvs.toArray kk) :: (tl ++ own)) Fz Nz (fun q hq => (List.mem_cons.mp hq).elim (fun h => h ▸ .head _) fun h => .tail _ (List.mem_append_left _ h)) (fun q hq => .tail _ (List.mem_append_right _ hq)) hoff2 ⟨some (.int (0 + (i2 : Int)) u), _, _, mext ["k", "lead", "x", "number", "leads", "script"] ⟨rfl, rfl, rfl, rfl, rfl, rfl, trivial⟩ (by intro y hy; simp only [Off] at hy; simp [ldMap, mput, mnil, hy]), rfl⟩
    case idone =>
      rintro m₁ nx h tk ⟨vk, tl2, tx, rfl, rfl⟩ F₃ N₃
      clear Fn Nn
      rw [show ((xn % 5 : Nat) - 0 : Int).toNat = xn % 5 by omega] at F₃
      have hlz : lvs.length ≤ 100 := by have := hin.length; rw [List.length_map, List.length_take] at this; have := (List.getElem?_eq_some_iff.mp hn).1; simp only [List.length_cons, List.length_take] at this; omega
      have ho : OwnOff (tl ++ own) [ld] := fun q hq r hr => by
        rcases List.mem_append.mp hq with hq | hq
        · exact hof q hq r hr
        · rw [List.mem_singleton.mp hr]; exact (hoff _ (.head _) q hq).symm
      k_steps
      rename Fr _ _ _ _ => Fz
      rename News _ _ _ _ => Nz
      rename _ ∧ AllLt _ _ => l8
      try rw [List.push_toArray] at Nz
      have h80 : (xn : Int).fdiv 80 = ((xn / 80 : Nat) : Int) := by rw [Int.fdiv_eq_ediv_of_nonneg _ (show (0 : Int) ≤ 80 by decide)]; omega
      rw [h80] at Nz
      have hq9 : numLead n = ((List.range (xn % 5)).map (fun k => if xn / 5 / 2 ^ k % 2 = 0 then 32 else 9), xn / 80) := by rw [numLead, ← hxn]
      have htk : (12 :: 87 :: 6 :: script.take 3).take (i + 1) = (12 :: 87 :: 6 :: script.take 3).take i ++ [n] := by rw [List.take_add_one, hn]; rfl
      refine JEnd.intro ((ld, W.listOf (lvs ++ [_]).toArray (kk + 1)) :: (_, _) :: tl) Fz Nz (sub_cons (.tail _ (.head _)) (sub_cons (.head _) fun q hq => .tail _ (.tail _ (List.mem_append_left _ hq)))) (fun q hq => .tail _ (.tail _ (List.mem_append_right _ hq))) ?_ ?_
      · intro p hp q hq
        rcases List.mem_cons.mp hp with rfl | hp
        · exact hoff _ (.head _) q hq
        · rcases List.mem_cons.mp hp with rfl | hp
          · exact (Nat.ne_of_lt (allLt_mem _ l8.2 q (List.mem_append_right _ hq))).symm
          · exact hoff _ (.tail _ hp) q hq
      · refine ⟨vk, _, _, _, ld, _, _, _, mext ["k", "lead", "x", "number", "leads", "script"] ⟨rfl, rfl, rfl, rfl, rfl, rfl, trivial⟩ (by intro y hy; simp only [Off] at hy; simp [ldMap, mput, mnil, hy]), rfl, ?_, ?_⟩
        · rw [htk, List.map_append, List.map_singleton, hq9]
          exact LeadsIn.snoc (hin.mono fun q hq => .tail _ hq) (.head _)
        · intro q hq r hr
          rw [List.mem_singleton.mp hr]
          rcases List.mem_cons.mp hq with rfl | hq
          · exact (Nat.ne_of_lt l8.1).symm
          · exact hof q hq _ (.head _)
end
end Mine

theorem Mine.tt_p_text : True := by w_top off; exact trivial
namespace Mine
-- LAW 03: _law_text
def wordT (q : List Nat × Nat) (k : Nat) : List Nat := if q.2 = 1 then (q.1.flatMap fun c => [92, c]) ++ [97 + k, 10] else 34 :: q.1 ++ [97 + k, 34]
def textGo : List (List Nat × Nat) → Nat → List Nat
  | [], _ => []
  | q :: r, k => wordT q k ++ textGo r (k + 1)
theorem bs_len (l : List Nat) : (l.flatMap fun c => [92, c]).length = 2 * l.length := by
  induction l with
  | nil => rfl
  | cons c r ih => rw [List.flatMap_cons, List.length_append, ih, List.length_cons]; simp only [List.length_cons, List.length_nil]; omega
theorem wordT_len {q : List Nat × Nat} {k : Nat} (h : q.1.length ≤ 4) : (wordT q k).length ≤ 10 := by
  unfold wordT
  split
  · rw [List.length_append, bs_len]; simp only [List.length_cons, List.length_nil]; omega
  · simp only [List.length_append, List.length_cons, List.length_nil]; omega
theorem apS_len (a b : Str) : (a ++ b).length = a.length + b.length := Array.size_append
theorem q_len : (Str.ofString "\"").length = 1 ∧ (Str.ofString "\n").length = 1 ∧ (Str.ofString "\\").length = 1 := by decide +kernel
theorem joinBS (l : List Nat) : Txt.join (Str.ofString "") (l.map fun c => stOf [92, c]) = stOf (l.flatMap fun c => [92, c]) := by
  have h := join_flat (l.map fun c => [92, c])
  rw [List.map_map] at h
  exact h.trans (by rw [List.flatMap_def])
theorem bs_sum (l : List Nat) : ((l.map fun c => stOf [92, c]).map (·.length)).sum + (l.map fun c => stOf [92, c]).length * (Str.ofString "").length = 2 * l.length := by
  have h0 : (Str.ofString "").length = 0 := by decide +kernel
  rw [h0, Nat.mul_zero, Nat.add_zero]
  induction l with
  | nil => rfl
  | cons c r ih => rw [List.map_cons, List.map_cons, List.sum_cons, ih, st_len]; simp only [List.length_cons, List.length_nil]; omega
theorem item_dec : ((List.range 6).all fun i => Txt.item (Str.ofString "abcdef") (0 + (i : Int)) == stOf [97 + i]) = true := by decide +kernel
theorem item_ab {i : Nat} (h : i < 6) : Txt.item (Str.ofString "abcdef") (0 + (i : Int)) = stOf [97 + i] := beq_iff_eq.mp (List.all_eq_true.mp item_dec i (List.mem_range.mpr h))
theorem q_st : Str.ofString "\"" = stOf [34] ∧ Str.ofString "\n" = stOf [10] := by decide +kernel
abbrev txMap (vb vl vk : Option Value) (acc : List Nat) (tt : Tok) (ld : Addr) : Str → Option Value :=
  mput "bare" vb (mput "lead" vl (mput "k" vk (mput "text" (some (.str (stOf acc) tt)) (mput "leads" (some (.ref ld)) mnil))))
def TxJ (ld : Addr) (qs : List (List Nat × Nat)) (led : List (Addr × Obj)) (i : Nat) (m₁ : Str → Option Value) (nx : List (Addr × Obj)) : Prop :=
  ∃ vb vl vk acc tt, m₁ = txMap vb vl vk acc tt ld ∧ nx = led ∧ acc.length ≤ 10 * i ∧ textGo qs 0 = acc ++ textGo (qs.drop i) i
local macro_rules | `(tactic| walk_at "subscriptTail Name Name ref int") => Mine.ln `Mine.item_L 5 0 true "AaBmCoDoEs" none 0 0 ""
local macro_rules | `(tactic| walk_at "eval ListComp") => `(tactic| (k_here; k_dflt (refine Mine.comp_strD (F := by k_asm) (by with_unfolding_all rfl) (by decide) (by rfl) (by decide) (by rfl) ?_)))
local macro_rules | `(tactic| walk_at "α") => `(tactic| (rw [sizeLine_eq]; (try simp only [Mine.st_len, Mine.one_len, Mine.apS_len]); omega))
local macro_rules | `(tactic| walk_at "binaryOp Add str str") => Mine.ln `PyProof.Rows.add_str 0 1 false "Aα" none 0 0 "Iab"
local macro_rules | `(tactic| walk_at "call builtin:str.join") => Mine.ln `Mine.join_L 4 0 true "AaBmCsDs" none 0 0 "Iab"
section
variable {w : World} {dp un : Nat} {gd : Option (List Code)} {cn : Str} {cs : Scope} {a : Addr} {ccd : Value} {cl : List (Str × Addr)} {outer : List Env} {A₀ : Around} {base h₀ : Heap} {L : Addr} {m mg mb : Str → Option Value} {p : Program} {loose : List Str} {mean : ExcName → Option Value} {s : Shared} {Q E : Value → Shared → Prop} {news : List (Addr × Obj)}
theorem text_call {ld : Addr} {lvs : List Value} {kl : Nat} {tl : List (Addr × Obj)} {qs : List (List Nat × Nat)} (B : Below A₀ base outer h₀) (F : Fr h₀ L s.heap m) (X : (Mine.hdm.heap_1 w.params).In h₀) (N : News h₀ L s.heap news) (T : Top p loose mean mg mb h₀) (hk : cs.kind = .function) (hd : dp + 5 < recursionLimit)
  (hsub : ∀ q ∈ (ld, W.listOf lvs.toArray kl) :: tl, q ∈ news) (hin : LeadsIn tl lvs qs) (hz : qs.length ≤ 6) (hq4 : ∀ q ∈ qs, q.1.length ≤ 4)
  (ret : ∀ tt h' tk', Fr h₀ L h' m → News h₀ L h' news → Q (.str (stOf (textGo qs 0)) tt) {s with heap := h', toks := tk'}) :
  wpAny (model PySem.Challenge.pw_pg0318_03 w) (ktrTop dp un gd cn cs L a ccd cl outer) (call (.ref 295) [.ref ld]) Q E s := by
  refine wpAny_call ?_
  have N₁ := News.sub N hsub
  have hll := hin.length
  have hlz : lvs.length ≤ 6 := by omega
  ktr_enter
  intro g L' h₂ hgs hgk hgn F₂ N₂ B₂ X₂ T₂
  clear hgs hgn B N₁
  change Fr g L' h₂ (mput "leads" (some (.ref ld)) mnil) at F₂
  try dsimp only
  show wpAny _ _ _ _ _ _
  k_fold
  try (refine Mine.set_walk ?_; intro A₉ e₉)
  k_steps
  rename IsRange _ _ _ _ _ _ _ _ => hr
  rename Fr _ _ _ _ => Fn
  rename News _ _ _ _ => Nn
  refine' Mine.range_J (TxJ ld qs ((ld, W.listOf lvs.toArray kl) :: tl)) ?ihh hr ?ha ?hb Fn Nn ?ihj ?iturn ?idone ?iht
  case ihh => rfl
  case iht => intro _ _; rfl
  case ha => omega
  case hb => omega
  case ihj => exact ⟨none, none, none, [], _, mext ["bare", "lead", "k", "text", "leads"] ⟨rfl, rfl, rfl, rfl, rfl, trivial⟩ (by intro y hy; simp only [Off] at hy; simp [txMap, mput, mnil, hy]), rfl, Nat.zero_le _, rfl⟩
  case idone =>
    rintro m₁ nx h tk ⟨vb, vl, vk, acc, tt, rfl, rfl, hal, htx⟩ F₃ N₃
    clear Fn Nn
    k_steps
    rename Fr _ _ _ _ => Fz
    rename News _ _ _ _ => Nz
    obtain ⟨F', N'⟩ := leave_ro F N hsub hgk Fz Nz sub_self
    rw [show ((lvs.length : Int) - 0).toNat = qs.length by omega, List.drop_length, textGo, List.append_nil] at htx
    have r9 := ret tt _ tk F' N'
    rw [htx] at r9
    exact r9
  case iturn =>
    rintro i u m₁ nx h tk own hi hoff ⟨vb, vl, vk, acc, tt, rfl, rfl, hal, htx⟩ F₃ N₃
    simp only [List.cons_append] at N₃
    clear Fn Nn
    have hi9 : i < qs.length := by omega
    obtain ⟨t9, tn9, tu9, hv9, hm9⟩ := hin.get (List.getElem?_eq_getElem hi9)
    have hl4 := hq4 _ (List.getElem_mem hi9)
    have hdr : qs.drop i = qs[i] :: qs.drop (i + 1) := List.drop_eq_getElem_cons hi9
    generalize qs[i] = q at *
    obtain ⟨lead, bare⟩ := q
    dsimp only at hm9 hl4
    replace hm9 := List.mem_append_left own hm9
    rw [show i = ((0 : Int) + (i : Int)).toNat by omega] at hv9
    have hql := q_len
    k_steps
    · rename Fr _ _ _ _ => Fn
      rename News _ _ _ _ => Nn
      refine' Mine.srcS_L (fun i ys => StrsAre ys ((lead.take i).map fun c => stOf [92, c])) rfl Fn Nn (by rw [st_len]; omega) .nil ?step ?fin
      case step =>
        intro i2 ys c u9 I oI C oC D m₂ h8 tk8 E' hc hJ hC hx F9 N9 off ne
        clear Fn Nn
        k_steps
        refine CmpEnd.intro _ F9 N9 sub_self off ⟨rfl, ?_⟩
        have hc2 : lead[i2]? = some c := by simpa using hc
        rw [List.take_add_one, hc2, List.map_append]
        exact hJ.snoc
      case fin =>
        intro g9 ys hJ
        rw [show (stOf lead).cps.size = lead.length from List.size_toArray .., List.take_length] at hJ
        have hjs : (((lead.map fun c => stOf [92, c]).map (·.length)).sum + (lead.map fun c => stOf [92, c]).length * (Str.ofString "").length ≤ 100000) := by
          rw [bs_sum]; omega
        have hjl : (Txt.join (Str.ofString "") (lead.map fun c => stOf [92, c])).length ≤ 8 := by rw [joinBS, st_len, bs_len]; omega
        clear Fn Nn
        k_steps
        rename Fr _ _ _ _ => Fz
        rename News _ _ _ _ => Nz
        rw [joinBS, item_ab (by omega), q_st.2, st_app, st_app, st_app] at Fz
        have hbz : bare = 1 := by omega
        have hw9 : wordT (lead, bare) i = (lead.flatMap fun c => [92, c]) ++ [97 + i] ++ [10] := by rw [wordT, if_pos hbz, List.append_assoc]; rfl
        exact JEnd.intro ((ld, W.listOf lvs.toArray kl) :: tl) Fz Nz (fun q hq => by
            simp only [List.mem_cons, List.mem_append] at hq ⊢
            rcases hq with h | h
            · exact .inr (.inl h)
            · exact .inr (.inr (.inl h))) (fun q hq => by
            simp only [List.mem_cons, List.mem_append] at hq ⊢
            exact .inr (.inr (.inr hq))) hoff ⟨_, _, _, _, _, mext ["bare", "lead", "k", "text", "leads"] ⟨rfl, rfl, rfl, rfl, rfl, trivial⟩ (by intro y hy; simp only [Off] at hy; simp [txMap, mput, mnil, hy]), rfl, by
            have := wordT_len (k := i) (q := (lead, bare)) hl4
            rw [hw9] at this
            rw [List.append_assoc, List.append_assoc, List.length_append, ← List.append_assoc]; omega, by
            rw [htx, hdr, textGo, hw9]; simp only [List.append_assoc]⟩
    · rename Fr _ _ _ _ => Fz
      rename News _ _ _ _ => Nz
      rw [item_ab (by omega), q_st.1, st_app, st_app, st_app, st_app] at Fz
      have hbz : bare ≠ 1 := by omega
      have hw9 : wordT (lead, bare) i = [34] ++ lead ++ [97 + i] ++ [34] := by rw [wordT, if_neg hbz]; simp only [List.append_assoc, List.cons_append, List.nil_append]
      exact JEnd.intro ((ld, W.listOf lvs.toArray kl) :: tl) Fz Nz (fun q hq => by
          simp only [List.mem_cons, List.mem_append] at hq ⊢
          rcases hq with h | h
          · exact .inl h
          · exact .inr (.inl h)) (fun q hq => by
          simp only [List.mem_cons, List.mem_append] at hq ⊢
          exact .inr (.inr hq)) hoff ⟨_, _, _, _, _, mext ["bare", "lead", "k", "text", "leads"] ⟨rfl, rfl, rfl, rfl, rfl, trivial⟩ (by intro y hy; simp only [Off] at hy; simp [txMap, mput, mnil, hy]), rfl, by
          have := wordT_len (k := i) (q := (lead, bare)) hl4
          rw [hw9] at this
          simp only [List.length_append] at this ⊢; omega, by
          rw [htx, hdr, textGo, hw9]; simp only [List.append_assoc]⟩
end
end Mine

theorem Mine.tt_p_reader : True := by w_top off; exact trivial
namespace Mine
local macro_rules | `(tactic| walk_at "zz") => `(tactic| fail)
-- U-WHOLE
-- LAW 03: _law_reader
section
variable {prog : Program} {w : World} {A : Around} {E : Value → Shared → Prop} {s : Shared} {h₀ : Heap} {L : Addr} {m : Str → Option Value} {news : List (Addr × Obj)}
theorem sg_of {x : Str} {vs : List Value} (hl : vs.length = x.cps.size) (h : ∀ (i : Nat) v, vs[i]? = some v → SignAt x i v) : SgAre vs x.cps.toList := by
  have key : ∀ (l : List Nat) (us : List Value), us.length = l.length → (∀ (i : Nat) v, us[i]? = some v → ∃ c u, l[i]? = some c ∧ v = .str ⟨#[c]⟩ u) → SgAre us l := by
    intro l
    induction l with
    | nil => intro us hl _; rw [List.length_eq_zero_iff.mp hl]; exact .nil
    | cons c r ih =>
      intro us hl hu
      cases us with
      | nil => cases hl
      | cons v us =>
        obtain ⟨c', u, hc, rfl⟩ := hu 0 v rfl
        cases hc
        exact .cons (ih us (by simpa using hl) fun i v hv => hu (i + 1) v hv)
  refine key _ _ (by simpa using hl) fun i v hv => ?_
  obtain ⟨c, u, hc, e⟩ := h i v hv
  exact ⟨c, u, by simpa using hc, e⟩
theorem list_str_L {xt : Str} {tx : Tok} {Q : Value → Shared → Prop} (hh : A.handled = none) (F : Fr h₀ L s.heap m) (N : News h₀ L s.heap news) (hz : xt.length ≤ 100000)
    (h : ∀ D h' tk svs k, Fr h₀ L h' m → News h₀ L h' ((D, W.listOf svs.toArray k) :: news) → (∀ p ∈ news, p.1 < D) → SgAre svs xt.cps.toList → Q (.ref D) { s with heap := h', toks := tk }) :
    wpAny (model prog w) A (call (.type "list") [.str xt tx]) Q E s := by
  refine call_list_str hh xt tx (fun h' tk acc' c' hk hD hI => ?_) (by rw [sizeLine_eq]; have : xt.cps.size ≤ 100000 := hz; omega)
  refine h _ h' tk acc'.toList c' ⟨F.ns.keeps hk, fun b o e => hk b o (F.keep b o e), F.above⟩ ?_ (fun p hp => Heap.lt_size (N p hp).1) ?_
  · refine List.forall_mem_cons.mpr ⟨⟨?_, fun e => absurd F.ns.lt (e ▸ Nat.lt_irrefl _), next_is_new F⟩, fun p hp => ⟨hk _ _ (N p hp).1, (N p hp).2⟩⟩
    rw [Array.toArray_toList]; exact hD
  · exact sg_of (by rw [Array.length_toList]; exact hI.1) fun i v hv => hI.2 i v (by simpa using hv)
theorem read_setattr {x rf : Addr} {fd : FuncData} {sl : Array (Option Value)} {Q : Unit → Shared → Prop} (F : Fr h₀ L s.heap m) (N : News h₀ L s.heap news) (hm : (x, fnObj none fd sl) ∈ news)
    (h : ∀ sd oS h' tk', IsReadDict oS rf → (∀ p ∈ news, p.1 < sd) → ∃ news', UpdS [(x, fnObj (some sd) fd sl)] news news' ∧ (Fr h₀ L h' m → News h₀ L h' ((sd, oS) :: news') → Q () { s with heap := h', toks := tk' })) :
    wpAny (model prog w) A (setAttr (.ref x) "read" (.ref rf)) Q E s := by
  have z := N _ hm
  refine fn_setattr fn_lk_read z.1 fun h' tk' hx hns hk => ?_
  obtain ⟨oS, es, ep, g1, g2, g3, g4, g5⟩ := hns
  obtain ⟨news', u, q⟩ := h s.heap.objs.size oS h' tk' ⟨es, ep, g2, g3, g4, g5⟩ fun p hp => Heap.lt_size (N p hp).1
  have hxL : L ≠ x := fun e => z.2.1 e.symm
  obtain ⟨oL, e1, e2, hL, e3⟩ := F.ns
  have F' : Fr h₀ L h' m := ⟨⟨oL, e1, e2, hk _ _ hxL hL, e3⟩, fun b o e => hk b o (fun q => by rw [q, z.2.2] at e; cases e) (F.keep b o e), F.above⟩
  refine q F' (List.forall_mem_cons.mpr ⟨⟨g1, fun e => absurd F.ns.lt (e ▸ Nat.lt_irrefl _), next_is_new F⟩, News.updS u N (fun b o e n => hk b o (fun q => n (by rw [q]; exact .head _)) e) fun p hp => ?_⟩)
  rw [List.mem_singleton.mp hp]
  exact ⟨hx, z.2⟩
end
local macro_rules | `(tactic| walk_at "call type:list") => do
  let g := (some (← `(term| wpAny _ _ (call (Value.type _) [Value.str _ _]) _ _ _)))
  Mine.ln `Mine.list_str_L 4 0 true "AfBaCaDs" g 0 0 "Iabcdefghi Lh W"
local macro_rules | `(tactic| walk_at "setAttr ref") => Mine.ln `Mine.read_setattr 3 0 false "AaBaCm" none 0 9 "Iabcdef U Igh Lf D W"
local macro_rules | `(tactic| walk_at "α") => `(tactic| refine' Upd.head ?a; (case a => k_all))
local macro_rules | `(tactic| walk_at "call builtin:list.pop") => Mine.ln `Mine.pop0_L 4 0 true "AaBaCαDo" none 0 0 "Iabc W"
local macro_rules | `(tactic| walk_at "getMethod ref") => Mine.ln `Mine.getMethod_list 3 0 true "AaBmCf" none 0 0 ""
section
variable {w : World} {dp un : Nat} {gd : Option (List Code)} {cn : Str} {cs : Scope} {a : Addr} {ccd : Value} {cl : List (Str × Addr)} {outer : List Env} {A₀ : Around} {base h₀ : Heap} {L : Addr} {m mg mb : Str → Option Value} {p : Program} {loose : List Str} {mean : ExcName → Option Value} {s : Shared} {Q E : Value → Shared → Prop} {news : List (Addr × Obj)}
theorem lexOf {P : Params} {h₀ h' : Heap} {L x d f2 sd sg pb f1 c1 c2 c : Addr} {fd fdR : FuncData} {sl slR : Array (Option Value)} {oS o1 o2 o : Obj} {u1 u2 u3 u4 u5 u6 : Tok} {ws : Str} {svs : List Value} {k : Nat} {rest news : List (Addr × Obj)}
  (N : News h₀ L h' ((pb, W.listOf ([] : List Value).toArray 0) :: (x, instObj 142 d) :: (d, lexDict P ws 1 f2 pb u1 u2 u3 u4 u5 u6) :: (sd, oS) :: (f2, fnObj (some sd) fd sl) :: (c2, o2) :: (f1, fnObj none fdR slR) :: (c1, o1) :: (sg, W.listOf svs.toArray k) :: (c, o) :: rest)) (N0 : News h₀ L h' news) :
  News h₀ L h' (lexLed P ⟨x, d, f2, sd, sg, pb, f1, fd, fdR, sl, slR, oS, u1, u2, u3, u4, u6, ws⟩ 1 u5 svs k ((pb, W.listOf #[] 0) :: [(c2, o2), (f1, fnObj none fdR slR), (c1, o1), (c, o)] ++ news)) := by
  intro q hq
  simp only [List.mem_cons, List.mem_append, List.not_mem_nil, or_false, or_assoc, List.cons_append, List.nil_append] at hq
  rcases hq with h | h | h | h | h | h | h | h | h | h | h
  · exact N q (h ▸ .tail _ (.head _))
  · exact N q (h ▸ .tail _ (.tail _ (.head _)))
  · exact N q (h ▸ .tail _ (.tail _ (.tail _ (.tail _ (.head _)))))
  · exact N q (h ▸ .tail _ (.tail _ (.tail _ (.head _))))
  · exact N q (h ▸ .tail _ (.tail _ (.tail _ (.tail _ (.tail _ (.tail _ (.tail _ (.tail _ (.head _)))))))))
  · exact N q (h ▸ .head _)
  · exact N q (h ▸ .tail _ (.tail _ (.tail _ (.tail _ (.tail _ (.head _))))))
  · exact N q (h ▸ .tail _ (.tail _ (.tail _ (.tail _ (.tail _ (.tail _ (.head _)))))))
  · exact N q (h ▸ .tail _ (.tail _ (.tail _ (.tail _ (.tail _ (.tail _ (.tail _ (.head _))))))))
  · exact N q (h ▸ .tail _ (.tail _ (.tail _ (.tail _ (.tail _ (.tail _ (.tail _ (.tail _ (.tail _ (.head _))))))))))
  · exact N0 q h
theorem own_of {h₁ g : Heap} {L' : Addr} {own : List (Addr × Obj)} (P : List (Addr × Obj) → Prop) (_N : News g L' h₁ own) (k : P own) : P own := k
theorem reader_call {xt : Str} {tx : Tok} (B : Below A₀ base outer h₀) (F : Fr h₀ L s.heap m) (X : (Mine.hdm.heap_1 w.params).In h₀) (N : News h₀ L s.heap ((297, tabObj #[]) :: news)) (T : Top p loose mean mg mb h₀) (hk : cs.kind = .function) (hd : dp + 40 < recursionLimit) (hu : un + 100 < cLine)
  (hC : CodeHd h₀ 301 297) (hoff : ∀ q ∈ news, q.1 ≠ 297) (hz : xt.length ≤ 1000)
  (ret : ∀ (G : LexG) ln t5 svs k own ps h' tk', Fr h₀ L h' m → News h₀ L h' (lexLed w.params G ln t5 svs k ((G.pb, W.listOf #[] 0) :: own ++ (297, tabObj ps) :: news)) → SgAre svs xt.cps.toList → LexOk PySem.Challenge.pw_pg0318_03 w (Mine.hdm.heap_1 w.params) p loose mean mg mb G own → G.ws = "\n\t\r " → (@LT.lt Nat _ G.sg G.pb ∧ @LT.lt Nat _ G.d G.pb) → @LT.lt Nat _ G.x G.pb → (∀ q ∈ own, q.1 ≠ G.pb) → (∀ q ∈ (297, tabObj ps) :: news, q.1 ≠ G.d ∧ q.1 ≠ G.sg ∧ q.1 ≠ G.pb) → Q (.ref G.x) {s with heap := h', toks := tk'}) :
  wpAny (model PySem.Challenge.pw_pg0318_03 w) (ktrTop dp un gd cn cs L a ccd cl outer) (call (.ref 302) [.str xt tx]) Q E s := by
  refine wpAny_call ?_
  have hsub : ∀ p ∈ [((297 : Addr), tabObj #[])], p ∈ (297, tabObj #[]) :: news := sub_cons (.head _) sub_nil
  have N₁ : News h₀ L s.heap [(297, tabObj #[])] := News.sub N hsub
  have hz5 : xt.length ≤ 100000 := by omega
  have hC₂ := hC
  kc_enter
  intro g L' h₂ tk₂ cells hgs hgk hgn F₂ N₂ Y₂ B₂ X₂ T₂ l1
  replace hC₂ : CodeHd g 301 297 := hC₂.keeps fun b o e => hgk _ _ (F.keep _ _ e) fun q => by
    simp only [List.map_cons, List.map_nil, List.mem_cons, List.not_mem_nil, or_false] at q
    rw [q, (N _ (.head _)).2.2] at e; cases e
  clear hgs hgn B N₁
  obtain ⟨oc, hE, dc⟩ := CellsAre.one Y₂
  subst hE
  clear Y₂
  k_lt l1
  change Fr g L' h₂ (mput "text" (some (.str xt tx)) mnil) at F₂
  change oc.data = .cell none at dc
  simp only [List.cons_append, List.nil_append] at N₂
  try dsimp only
  show wpAny _ _ _ _ _ _
  k_fold
  try (refine Mine.set_walk ?_; intro A₉ e₉)
  k_steps
  rename Fr _ _ _ _ => Fz
  rename News _ _ _ _ => Nz
  rename_i sg h1 tk1 svs k S l1a h2 o' d' f1 c1 oc1 vs1 t1 ct1 dc1 h4 tk2 d1a d1b l1b l1c h5 f2 c2 oc2 vs2 t2 ct2 h6 tk3 d2a d2b l2b l2c h7 sd oS h8 tk4 R l3
  have Nw := News.sub Nz (news' := [(c2, oc2), (f1, _), (c1, oc1), (L' + 1, o')]) (sub_cons (by k_mem) (sub_cons (by k_mem) (sub_cons (by k_mem) (sub_cons (by k_mem) sub_nil))))
  have hR := own_of (fun own => ReadsOk PySem.Challenge.pw_pg0318_03 w (Mine.hdm.heap_1 w.params) p loose mean mg mb f1 sg own) Nw (by
    clear Fz Nz Nw B₂ X₂ T₂ ret hgk F N X T l3 S hoff hsub
    replace l1c := ltN l1c
    replace l2c := ltN l2c
    show ReadsOk PySem.Challenge.pw_pg0318_03 w (Mine.hdm.heap_1 w.params) p loose mean mg mb f1 sg _
    intro dp9 un9 gd9 cn9 cs9 a9 ccd9 cl9 outer9 A9 base9 h9 L9 m9 news9 s9 Q9 E9 svs9 chs9 k9 t9 B9 F9 X9 N9 T9 hk9 hd9 ho9 hm9 hs9 hl9 ret9
    refine wpAny_call ?_
    have hsub9 := List.forall_mem_cons.mpr ⟨hm9, ho9⟩
    have N91 := News.sub N9 hsub9
    refine' Mine.enter_nest _ ?k1 ?k2 ?k3 ?k4 ?k5 ?kA ?kF ?kK ?k6 ?k6d ?k7 ?k8 ?k9 ?kl ?kB ?_ ?c2 ?c3 ?c4 ?c5; (case kA => exact rfl); (case kF => exact rfl); (case kK => assumption); (case k1 => k_asm); (case k2 => k_asm); (case k3 => k_asm); (case k4 => exact N91); (case k5 => k_asm); (case k6 => exact (N91 (f1, _) (.tail _ (.tail _ (.head _)))).1); (case k6d => exact rfl); (case k7 => exact codeRec_news N91 (.tail _ (.tail _ (.tail _ (.head _)))) d1a d1b); (case k8 => ktr_room); (case k9 => exact BindsTo.of_eq rfl); (case kl => with_unfolding_all exact rfl); (case c5 => decide); (case kB => exact locs rfl); (case c2 => exact rfl); (case c3 => exact rfl); (case c4 => exact rfl)
    intro g2 L2 h2' hgs2 hgk2 hgn2 F₂ N₂ B₂ X₂ T₂
    clear hgs2 hgn2 B9
    change Fr g2 L2 h2' (mput "count" (some (.int 1 t9)) mnil) at F₂
    try dsimp only
    show wpAny _ _ _ _ _ _
    k_fold
    try (refine Mine.set_walk ?_; intro A₉ e₉)
    have hs8 := hs9.length
    cases hs9 with
    | nil =>
      k_steps
      rename Fr _ _ _ _ => Fz
      rename News _ _ _ _ => Nz
      obtain ⟨F', K', N'⟩ := leave_S [sg] F9 N9 hsub9 hgk2 Fz Nz (List.forall_mem_cons.mpr ⟨.inl (.head _), fun q hq => .inl (.tail _ hq)⟩)
      exact ret9 _ _ _ [] k9 F' K' (News.sub N' (sub_cons (.head _) sub_nil)) .nil
    | cons hr =>
      rw [List.length_cons] at hl9
      have hr8 := hr.length
      k_steps
      · rename Fr _ _ _ _ => Fz
        rename News _ _ _ _ => Nz
        obtain ⟨F', K', N'⟩ := leave_S [sg] F9 N9 hsub9 hgk2 Fz Nz (List.forall_mem_cons.mpr ⟨.inr (.head _), fun q hq => .inl (.tail _ hq)⟩)
        exact ret9 _ _ _ _ _ F' K' (News.sub N' (sub_cons (.head _) sub_nil)) hr
      · exfalso
        simp only [List.length_cons] at *
        omega)
  refine' Mine.lex_make B₂ Fz X₂ Nz T₂ rfl (by ktr_room) ?_
  intro x d pb u1 u2 u3 u4 u5 u6 h' tk' Fy Ny l4 l5 l6
  k_lt l4
  obtain ⟨F', N', K'⟩ := leave F (News.sub N hsub) hgk Fy Ny
  have N0 := News.off (News.sub N fun q hq => .tail _ hq) K' fun q hq z => by
    simp only [List.map_cons, List.map_nil, List.mem_cons, List.not_mem_nil, or_false] at z
    exact hoff q hq z
  replace l5 := ltN l5
  replace l6 := ltN l6
  replace l1c := ltN l1c
  replace l2c := ltN l2c
  have hne : ∀ (e : Addr) (o : Obj), (e, o) ∈ ((pb, W.listOf ([] : List Value).toArray 0) :: (x, instObj 142 d) :: (d, lexDict w.params "\n\t\r " 1 f2 pb u1 u2 u3 u4 u5 u6) :: _) → @Ne Nat 297 e → ∀ q ∈ news, q.1 ≠ e := fun e o hm hn => by
    intro q hq
    exact fresh_ne N hgk Ny hm (fun p hp => by rw [List.mem_singleton.mp hp]; exact hn) q (.tail _ hq)
  have N00 : News h₀ L h' ((297, _) :: news) := List.forall_mem_cons.mpr ⟨N' (297, _) (.tail _ (.tail _ (.tail _ (.tail _ (.tail _ (.tail _ (.tail _ (.tail _ (.tail _ (.tail _ (.head _))))))))))), N0⟩
  refine ret _ 1 u5 svs k _ _ h' tk' F' (lexOf N' N00) S ⟨hR, .tail _ (.head _), R, ?_, ?_⟩ rfl ?_ ?_ ?_ ?_
  · intro q hq r hr
    simp only [List.mem_cons, List.not_mem_nil, or_false] at hq hr
    rcases hq with h | h | h | h <;> rcases hr with h2 | h2 <;> (rw [h, h2]; refine neN ?_; dsimp only; omega)
  · refine ⟨?_, ?_, ?_, ?_⟩ <;> (refine ltN ?_; dsimp only; omega)
  · constructor <;> (refine ltN ?_; dsimp only; omega)
  · refine ltN ?_; dsimp only; omega
  · intro q hq
    simp only [List.mem_cons, List.not_mem_nil, or_false] at hq
    rcases hq with h | h | h | h <;> (rw [h]; refine neN ?_; dsimp only; omega)
  · refine List.forall_mem_cons.mpr ⟨⟨neN (by dsimp only; omega), neN (by dsimp only; omega), neN (by dsimp only; omega)⟩, ?_⟩
    intro q hq
    exact ⟨hne d _ (.tail _ (.tail _ (.head _))) (neN (by omega)) q hq, hne sg _ (.tail _ (.tail _ (.tail _ (.tail _ (.tail _ (.tail _ (.tail _ (.tail _ (.head _))))))))) (neN (by omega)) q hq, hne pb _ (.head _) (neN (by omega)) q hq⟩
end
end Mine

theorem Mine.tt_p_least : True := by w_top off; exact trivial
namespace Mine
-- U-WHOLE
-- LAW 03: _law_least
local macro_rules | `(tactic| walk_at "α") => `(tactic| with_unfolding_all exact rfl)
local macro_rules | `(tactic| walk_at "exec Assign cons ListComp") => Mine.ln `wpAny_Assign_Name 0 1 false "Aα" none 0 0 ""
local macro_rules | `(tactic| walk_at "eval ListComp") => `(tactic| (k_here; (with_reducible show wpAny _ _ (eval (PySem.Expr.ListComp _ [⟨PySem.Expr.Tuple _ _ _, _, _, _⟩] _ _) _) _ _ _); k_dflt (refine Mine.comp_Q (_F₀ := by k_asm) (by with_unfolding_all rfl) (by intro n; rfl) (by rfl) (by decide) (by intro _ _; rfl) (by rfl) ?_)))
local macro_rules | `(tactic| walk_at "eval ListComp") => `(tactic| (k_here; (with_reducible show wpAny _ _ (eval (PySem.Expr.ListComp _ [⟨PySem.Expr.Name _ _, _, [], _⟩] _ _) _) _ _ _); k_dflt (refine Mine.comp_R (F₀ := by k_asm) (by with_unfolding_all rfl) (by decide) (by rfl) (by decide) (by rfl) ?_)))
local macro_rules | `(tactic| walk_at "eval ListComp") => `(tactic| (k_here; (with_reducible show wpAny _ _ (eval (PySem.Expr.ListComp _ [⟨PySem.Expr.Name _ _, _, [_], _⟩] _ _) _) _ _ _); k_dflt (refine Mine.comp_RT (F₀ := by k_asm) (by with_unfolding_all rfl) (by decide) (by rfl) (by decide) (by rfl) ?_)))
local macro_rules | `(tactic| walk_at "subscriptTail Name Name ref int") => Mine.ln `Mine.item_L 5 0 true "AaBmCoDoEs" none 0 0 ""
local macro_rules | `(tactic| walk_at "subscriptTail Subscript Name ref int") => Mine.ln `Mine.item_L 5 0 true "AaBmCoDoEs" none 0 0 ""
local macro_rules | `(tactic| walk_at "call builtin:list.append") => do
  let g := (some (← `(term| wpAny _ _ (call (Value.builtin _) [Value.ref _, _]) _ _ _)))
  Mine.ln `Mine.append_L 4 0 false "AaBaCmDo" g 0 9 "Ia U Ibc D W"
def colsOf (l : List Nat) : List Nat := (List.range 5).map fun k => colGo (k + 1) l 0
def beats (r q : List Nat) : Bool := ((List.range 5).filter fun k => decide (q.getD k 0 ≤ r.getD k 0)).length == 0
def leastIx (rows : List (List Nat)) : List Nat := (List.range rows.length).filter fun i => !(rows.any fun r => beats r (rows.getD i []))
def leastF (qs : List (List Nat × Nat)) : List Str := (leastIx (qs.map fun q => colsOf q.1)).map fun i => stOf [97 + i]
def leastTo (rows : List (List Nat)) (i : Nat) : List Str := (((List.range i).filter fun i => !(rows.any fun r => beats r (rows.getD i [])))).map fun i => stOf [97 + i]
abbrev leMap (vb : Option Value) (lo ld : Addr) : Str → Option Value := mput "beaten" vb (mput "least" (some (.ref lo)) (mput "leads" (some (.ref ld)) mnil))
def LeJ (c1 c2 c3 D ld : Addr) (ys lvs : List Value) (kl : Nat) (rt : List (Addr × Obj)) (rows : List (List Nat)) (i : Nat) (m₁ : Str → Option Value) (nx : List (Addr × Obj)) : Prop :=
  ∃ vb lo los klo o1 o2 o3 v2 v3, m₁ = leMap vb lo ld ∧ nx = (lo, W.listOf los.toArray klo) :: (c3, o3) :: (c2, o2) :: (c1, o1) :: (D, W.listOf ys.toArray ys.length) :: (ld, W.listOf lvs.toArray kl) :: rt ∧
    o1.data = .cell (some (.ref D)) ∧ o2.data = .cell v2 ∧ o3.data = .cell v3 ∧ StrsAre los (leastTo rows i) ∧ (@LT.lt Nat _ c1 lo ∧ @LT.lt Nat _ c2 lo ∧ @LT.lt Nat _ c3 lo ∧ @LT.lt Nat _ D lo ∧ @LT.lt Nat _ ld lo) ∧ AllLt lo rt
def LeK (c1 c2 c3 ld lo : Addr) (o1 o2 : Obj) (lvs los : List Value) (kl klo : Nat) (rt : List (Addr × Obj)) (rows : List (List Nat)) (row : List Nat) (i : Nat) (m₁ : Str → Option Value) (nx : List (Addr × Obj)) : Prop :=
  ∃ o3 v3, m₁ = leMap (some (.bool ((rows.take i).any fun r => beats r row))) lo ld ∧ nx = (lo, W.listOf los.toArray klo) :: (c3, o3) :: (c2, o2) :: (c1, o1) :: (ld, W.listOf lvs.toArray kl) :: rt ∧ o3.data = .cell v3
theorem getI {r : List Nat} {k : Nat} (h : k < r.length) : (r.map fun (n : Nat) => (n : Int))[k]? = some ((r.getD k 0 : Nat) : Int) := by
  rw [List.getElem?_map, List.getD_eq_getElem?_getD, List.getElem?_eq_getElem h]; rfl
inductive RowsIn (led : List (Addr × Obj)) : List Value → List (List Nat) → Prop where
  | nil : RowsIn led [] []
  | cons {t : Addr} {us : List Value} {r : List Nat} {k : Nat} {vs : List Value} {rs : List (List Nat)} : (t, W.listOf us.toArray k) ∈ led → IntsAre us (r.map fun (n : Nat) => (n : Int)) → RowsIn led vs rs → RowsIn led (.ref t :: vs) (r :: rs)
theorem RowsIn.mono {led led' : List (Addr × Obj)} {vs : List Value} {rs : List (List Nat)} (h : RowsIn led vs rs) (k : ∀ p ∈ led, p ∈ led') : RowsIn led' vs rs := by
  induction h with
  | nil => exact .nil
  | cons hm hi _ ih => exact .cons (k _ hm) hi ih
theorem RowsIn.length {led : List (Addr × Obj)} {vs : List Value} {rs : List (List Nat)} (h : RowsIn led vs rs) : vs.length = rs.length := by
  induction h with
  | nil => rfl
  | cons _ _ _ ih => rw [List.length_cons, List.length_cons, ih]
theorem RowsIn.snoc {led : List (Addr × Obj)} {vs : List Value} {rs : List (List Nat)} {t : Addr} {us : List Value} {r : List Nat} {k : Nat} (h : RowsIn led vs rs) (hm : (t, W.listOf us.toArray k) ∈ led) (hi : IntsAre us (r.map fun (n : Nat) => (n : Int))) : RowsIn led (vs ++ [.ref t]) (rs ++ [r]) := by
  induction h with
  | nil => exact .cons hm hi .nil
  | cons h1 h2 _ ih => exact .cons h1 h2 ih
theorem RowsIn.get {led : List (Addr × Obj)} {vs : List Value} {rs : List (List Nat)} (h : RowsIn led vs rs) : ∀ {i : Nat} {r : List Nat}, rs[i]? = some r → ∃ t us k, vs[i]? = some (.ref t) ∧ (t, W.listOf us.toArray k) ∈ led ∧ IntsAre us (r.map fun (n : Nat) => (n : Int)) := by
  induction h with
  | nil => intro i v h; simp at h
  | cons hm hi _ ih =>
    intro i v h
    cases i with
    | zero => simp at h; subst h; exact ⟨_, _, _, rfl, hm, hi⟩
    | succ i => exact ih (by simpa using h)
section
variable {w : World} {dp un : Nat} {gd : Option (List Code)} {cn : Str} {cs : Scope} {a : Addr} {ccd : Value} {cl : List (Str × Addr)} {outer : List Env} {A₀ : Around} {base h₀ : Heap} {L : Addr} {m mg mb : Str → Option Value} {p : Program} {loose : List Str} {mean : ExcName → Option Value} {s : Shared} {Q E : Value → Shared → Prop} {news : List (Addr × Obj)}
theorem column_callZ {ws : Str} {tw ts : Tok} {z : Int} (B : Below A₀ base outer h₀) (F : Fr h₀ L s.heap m) (X : (Mine.hdm.heap_1 w.params).In h₀) (N : News h₀ L s.heap news) (T : Top p loose mean mg mb h₀) (hk : cs.kind = .function) (hd : dp + 5 < recursionLimit)
  (hs : 1 ≤ z ∧ z ≤ 10)
  (ret : ∀ tc h' tk', Fr h₀ L h' m → News h₀ L h' news → Q (.int (colGo z.toNat ws.cps.toList 0 : Int) tc) {s with heap := h', toks := tk'}) :
  wpAny (model PySem.Challenge.pw_pg0318_03 w) (ktrTop dp un gd cn cs L a ccd cl outer) (call (.ref 316) [.str ws tw, .int z ts]) Q E s := by
  obtain ⟨n, rfl⟩ : ∃ n : Nat, z = (n : Int) := ⟨z.toNat, by omega⟩
  exact column_call B F X N T hk hd (by omega) ret
end
local macro_rules | `(tactic| walk_at "call ref") => Mine.ln `Mine.column_callZ 8 0 false "AaBaCaDaEaFkHoGr" none 0 0 "Iabcde D F"
section
variable {w : World} {dp un : Nat} {gd : Option (List Code)} {cn : Str} {cs : Scope} {a : Addr} {ccd : Value} {cl : List (Str × Addr)} {outer : List Env} {A₀ : Around} {base h₀ : Heap} {L : Addr} {m mg mb : Str → Option Value} {p : Program} {loose : List Str} {mean : ExcName → Option Value} {s : Shared} {Q E : Value → Shared → Prop} {news : List (Addr × Obj)}
theorem least_call {ld : Addr} {lvs : List Value} {kl : Nat} {tl : List (Addr × Obj)} {qs : List (List Nat × Nat)} (B : Below A₀ base outer h₀) (F : Fr h₀ L s.heap m) (X : (Mine.hdm.heap_1 w.params).In h₀) (N : News h₀ L s.heap news) (T : Top p loose mean mg mb h₀) (hk : cs.kind = .function) (hd : dp + 10 < recursionLimit)
  (hCd : CodeHd h₀ 301 297) (hsub : ∀ q ∈ (ld, W.listOf lvs.toArray kl) :: tl, q ∈ news) (hin : LeadsIn tl lvs qs) (hz : qs.length ≤ 6)
  (ret : ∀ lo (los : List Value) ko h' tk', Fr h₀ L h' m → News h₀ L h' ((lo, W.listOf los.toArray ko) :: news) → StrsAre los (leastF qs) → Q (.ref lo) {s with heap := h', toks := tk'}) :
  wpAny (model PySem.Challenge.pw_pg0318_03 w) (ktrTop dp un gd cn cs L a ccd cl outer) (call (.ref 321) [.ref ld]) Q E s := by
  refine wpAny_call ?_
  have N₁ := News.sub N hsub
  have hll := hin.length
  have hlz : lvs.length ≤ 6 := by omega
  have hC₂ := hCd
  kc_enter
  intro g L' h₂ tk₂ cells hgs hgk hgn F₂ N₂ Y₂ B₂ X₂ T₂ l1
  replace hC₂ : CodeHd g 301 297 := hC₂.keeps fun b o e => hgk _ _ (F.keep _ _ e) fun q => by
    obtain ⟨p9, hp9, rfl⟩ := List.mem_map.mp q
    rw [(N _ (hsub p9 hp9)).2.2] at e; cases e
  clear hgs hgn B N₁
  change Fr g L' h₂ (mput "leads" (some (.ref ld)) mnil) at F₂
  obtain ⟨oc1, oc2, oc3, hE, dc1, dc2, dc3⟩ := CellsAre.three Y₂
  subst hE
  clear Y₂
  k_lt l1
  change oc1.data = .cell none at dc1
  change oc2.data = .cell none at dc2
  change oc3.data = .cell none at dc3
  simp only [List.cons_append, List.nil_append] at N₂
  try dsimp only
  show wpAny _ _ _ _ _ _
  k_fold
  try (refine Mine.set_walk ?_; intro A₉ e₉)
  k_steps
  rename Fr _ _ _ _ => Fn
  rename News _ _ _ _ => Nn
  have hcc : ∀ q ∈ (ld, W.listOf lvs.toArray kl) :: tl, q.1 < L' := allLt_mem _ (by first | exact l1 | exact ⟨l1.1, l1.2⟩)
  refine' ⟨ld, lvs, kl, _, (fun i ys nw => ∃ rt, nw = rt ++ (L' + 1 + 1 + 1, oc1) :: (L' + 1 + 1, oc2) :: (L' + 1, oc3) :: (ld, W.listOf lvs.toArray kl) :: tl ∧ RowsIn rt ys ((qs.take i).map fun q => colsOf q.1) ∧ OwnOff rt [L' + 1, L' + 1 + 1, L' + 1 + 1 + 1]), rfl, rfl, Fn, Nn, ?hax, by omega, ?hj, ?step, ?fin⟩
  case hax => rintro i ys nw ⟨rt, rfl, _, _⟩; exact List.mem_append_right _ (.tail _ (.tail _ (.tail _ (.head _))))
  case hj => exact ⟨[], rfl, .nil, fun q hq => nomatch hq⟩
  case step =>
    rintro i ys nw v hv ⟨rt, rfl, hr, hro⟩
    have hi9 : i < qs.length := by have := (List.getElem?_eq_some_iff.mp hv).1; omega
    obtain ⟨q, hq⟩ : ∃ q, qs[i]? = some q := ⟨_, List.getElem?_eq_getElem hi9⟩
    obtain ⟨t9, tn9, tu9, hv9, hm9⟩ := hin.get hq
    obtain rfl : v = .ref t9 := Option.some.inj (hv.symm.trans hv9)
    refine ⟨t9, _, _, rfl, List.mem_append_right _ (.tail _ (.tail _ (.tail _ (.tail _ hm9)))), ?_⟩
    intro I oI C oC c oc D m₂ h tk E' hC dc hm2 F₃ N₃ off ne
    clear Fn Nn
    generalize hnw : rt ++ (L' + 1 + 1 + 1, oc1) :: (L' + 1 + 1, oc2) :: (L' + 1, oc3) :: (ld, W.listOf lvs.toArray kl) :: tl = nw at *
    k_steps
    rename IsRange _ _ _ _ _ _ _ _ => hrg
    rename Fr _ _ _ _ => Fn
    rename News _ _ _ _ => Nn
    refine' Mine.srcR_L 5 (fun i2 ys2 => IntsAre ys2 (((List.range i2).map fun k => colGo (k + 1) q.1 0).map fun (n : Nat) => (n : Int))) rfl Fn Nn hrg (by decide) (by decide) rfl .nil ?step2 ?fin2
    case step2 =>
      intro i2 ys2 u2 I2 oI2 C2 oC2 D2 m3 h2 tk2 E2 hi2 hJ2 hC2 hx2 F4 N4 off2 ne2
      clear Fn Nn
      k_steps
      rename Fr _ _ _ _ => Fz
      rename News _ _ _ _ => Nz
      refine CmpEnd.intro _ Fz Nz sub_self off2 ⟨rfl, ?_⟩
      rw [show (1 + (i2 : Int)).toNat = i2 + 1 by omega, List.range_succ, List.map_append, List.map_append]
      exact IntsAre.append hJ2 (.cons _ _ .nil)
    case fin2 =>
      intro g9 ys2 hJ2
      clear Fn Nn
      k_steps
      rename Fr _ _ _ _ => Fz
      rename News _ _ _ _ => Nz
      rename_i D' h' tk' o9
      obtain ⟨o91, o92, o93, o94, o95⟩ := o9
      have o96 := off1_mem o95
      subst hnw
      refine CqEnd.intro ((D', LCg.lst ys2) :: (rt ++ (L' + 1 + 1 + 1, oc1) :: (L' + 1 + 1, oc2) :: (L' + 1, oc3) :: (ld, W.listOf lvs.toArray kl) :: tl)) Fz Nz ?_ ?_ ⟨(D', LCg.lst ys2) :: rt, rfl, ?_, ?_⟩
      · exact sub_cons (.tail _ (.head _)) (sub_cons (.tail _ (.tail _ (.head _))) (sub_cons (.tail _ (.tail _ (.tail _ (.head _)))) (sub_cons (.tail _ (.tail _ (.tail _ (.tail _ (.head _))))) (sub_cons (.head _) fun q hq => .tail _ (.tail _ (.tail _ (.tail _ (.tail _ hq))))))))
      · exact List.forall_mem_cons.mpr ⟨⟨o91.symm, o92.symm, o93.symm, o94.symm⟩, off⟩
      · have htk : qs.take (i + 1) = qs.take i ++ [q] := by rw [List.take_add_one, hq]; rfl
        rw [htk, List.map_append, List.map_singleton]
        exact RowsIn.snoc (hr.mono fun q hq => .tail _ hq) (.head _) hJ2
      · intro q hq r hr2
        rcases List.mem_cons.mp hq with rfl | hq
        · simp only [List.mem_cons, List.not_mem_nil, or_false] at hr2
          rcases hr2 with rfl | rfl | rfl
          · exact (o96 _ (List.mem_append_right _ (.tail _ (.tail _ (.head _))))).symm
          · exact (o96 _ (List.mem_append_right _ (.tail _ (.head _)))).symm
          · exact (o96 _ (List.mem_append_right _ (.head _))).symm
        · exact hro q hq r hr2
  case fin =>
    rintro D h tk ys nw ⟨rt, rfl, hr, hro⟩ F₃ N₃ hoff
    have N4 := News.sub N₃ (news' := (L' + 1 + 1 + 1, oc1) :: (L' + 1 + 1, oc2) :: (L' + 1, oc3) :: (D, LCg.lst ys) :: (ld, W.listOf lvs.toArray kl) :: (rt ++ tl)) (by
      intro q hq
      simp only [List.mem_cons, List.mem_append] at hq ⊢
      rcases hq with h | h | h | h | h | h | h
      · exact .inr (.inr (.inl h))
      · exact .inr (.inr (.inr (.inl h)))
      · exact .inr (.inr (.inr (.inr (.inl h))))
      · exact .inl h
      · exact .inr (.inr (.inr (.inr (.inr (.inl h)))))
      · exact .inr (.inl h)
      · exact .inr (.inr (.inr (.inr (.inr (.inr h))))))
    have hrl := hr.length
    rw [List.length_map, List.length_take] at hrl
    rw [hll, List.take_length] at hr
    have ho : OwnOff (rt ++ tl) [L' + 1, L' + 1 + 1, L' + 1 + 1 + 1] := fun q hq r hr2 => by
      rcases List.mem_append.mp hq with hq | hq
      · exact hro q hq r hr2
      · have := hcc q (.tail _ hq)
        simp only [List.mem_cons, List.not_mem_nil, or_false] at hr2
        rcases hr2 with rfl | rfl | rfl
        · exact Nat.ne_of_lt (Nat.lt_succ_of_lt this)
        · exact Nat.ne_of_lt (Nat.lt_succ_of_lt (Nat.lt_succ_of_lt this))
        · exact Nat.ne_of_lt (Nat.lt_succ_of_lt (Nat.lt_succ_of_lt (Nat.lt_succ_of_lt this)))
    have hD1 := neN (hoff (L' + 1, oc3) (List.mem_append_right _ (.tail _ (.tail _ (.head _)))))
    have hD2 := neN (hoff (L' + 1 + 1, oc2) (List.mem_append_right _ (.tail _ (.head _))))
    have hD3 := neN (hoff (L' + 1 + 1 + 1, oc1) (List.mem_append_right _ (.head _)))
    have hD4 : ∀ q ∈ rt ++ tl, q.1 ≠ D := fun q hq => by
      rcases List.mem_append.mp hq with hq | hq
      · exact hoff q (List.mem_append_left _ hq)
      · exact hoff q (List.mem_append_right _ (.tail _ (.tail _ (.tail _ (.tail _ hq)))))
    dsimp only at hD1 hD2 hD3
    clear N₃ Fn Nn
    have hyl : ys.length = qs.length := by have := hr.length; rw [List.length_map] at this; exact this
    have hrw5 : ∀ r ∈ qs.map fun q => colsOf q.1, r.length = 5 := fun r h9 => by
      obtain ⟨q9, _, rfl⟩ := List.mem_map.mp h9
      rw [colsOf, List.length_map, List.length_range]
    have hrn : (qs.map fun q => colsOf q.1).length = qs.length := List.length_map ..
    replace hr := hr.mono (led' := rt ++ tl) fun q hq => List.mem_append_left _ hq
    have hL1 : ∀ q ∈ rt ++ tl, q.1 ≠ L' + 1 := OwnOff.ne ho (.head _)
    k_steps
    rename IsRange _ _ _ _ _ _ _ _ => hrg
    rename Fr _ _ _ _ => Fn
    rename News _ _ _ _ => Nn
    rename _ ∧ _ ∧ _ ∧ _ ∧ _ ∧ AllLt _ (rt ++ tl) => l9
    refine' Mine.range_J (LeJ (L' + 1) (L' + 1 + 1) (L' + 1 + 1 + 1) D ld ys lvs kl (rt ++ tl) (qs.map fun q => colsOf q.1)) ?ohh hrg ?oa ?ob Fn Nn ?oj ?oturn ?odone ?oht
    case ohh => rfl
    case oht => intro _ _; rfl
    case oa => omega
    case ob => omega
    case oj => exact ⟨none, _, [], 0, _, _, _, _, _, mext ["beaten", "least", "leads"] ⟨rfl, rfl, rfl, trivial⟩ (by intro y hy; simp only [Off] at hy; simp [leMap, mput, mnil, hy]), rfl, by assumption, by assumption, by assumption, .nil, ⟨l9.2.2.1, l9.2.1, l9.1, l9.2.2.2.1, l9.2.2.2.2.1⟩, l9.2.2.2.2.2⟩
    case odone =>
      rintro m₁ nx h tk ⟨vb, lo, los, klo, o1, o2, o3, v2, v3, rfl, rfl, d1, d2, d3, hlos, hlt, hAl⟩ F₄ N₄
      clear Fn Nn
      k_steps
      rename Fr _ _ _ _ => Fz
      rename News _ _ _ _ => Nz
      obtain ⟨F', N', _⟩ := leave F (News.sub N hsub) hgk Fz Nz
      obtain ⟨_, N'₂⟩ := leave_ro F N hsub hgk Fz Nz (List.forall_mem_cons.mpr ⟨.tail _ (.tail _ (.tail _ (.tail _ (.tail _ (.head _))))), fun q hq => .tail _ (.tail _ (.tail _ (.tail _ (.tail _ (.tail _ (List.mem_append_right _ hq))))))⟩)
      refine ret lo los klo _ _ F' (List.forall_mem_cons.mpr ⟨N' _ (.head _), N'₂⟩) ?_
      rw [show ((ys.length : Int) - 0).toNat = (qs.map fun q => colsOf q.1).length by omega] at hlos
      exact hlos
    case oturn =>
      rintro i u m₁ nx h tk own hi hoff2 ⟨vb, lo, los, klo, o1, o2, o3, v2, v3, rfl, rfl, d1, d2, d3, hlos, hlt, hAl⟩ F₄ N₄
      simp only [List.cons_append] at N₄
      clear Fn Nn
      have hi9 : i < qs.length := by omega
      have hT : OwnOff (rt ++ tl ++ own) [L' + 1, L' + 1 + 1, L' + 1 + 1 + 1, D, lo] := fun q hq r hr2 => by
        simp only [List.mem_cons, List.not_mem_nil, or_false] at hr2
        rcases List.mem_append.mp hq with hq | hq
        · rcases hr2 with rfl | rfl | rfl | rfl | rfl
          · exact ho q hq _ (.head _)
          · exact ho q hq _ (.tail _ (.head _))
          · exact ho q hq _ (.tail _ (.tail _ (.head _)))
          · exact hD4 q hq
          · exact Nat.ne_of_lt (allLt_mem _ hAl q hq)
        · rcases hr2 with rfl | rfl | rfl | rfl | rfl
          · exact (hoff2 _ (.tail _ (.tail _ (.tail _ (.head _)))) q hq).symm
          · exact (hoff2 _ (.tail _ (.tail _ (.head _))) q hq).symm
          · exact (hoff2 _ (.tail _ (.head _)) q hq).symm
          · exact (hoff2 _ (.tail _ (.tail _ (.tail _ (.tail _ (.head _))))) q hq).symm
          · exact (hoff2 _ (.head _) q hq).symm
      obtain ⟨r1, hr1⟩ : ∃ r, (qs.map fun q => colsOf q.1)[i]? = some r := ⟨_, List.getElem?_eq_getElem (by omega)⟩
      obtain ⟨t1, us1, k1, hv1, hm1, hI1⟩ := hr.get hr1
      have hz1 := hrw5 _ (List.mem_of_getElem? hr1)
      have hgD : (qs.map fun q => colsOf q.1).getD i [] = r1 := by rw [List.getD_eq_getElem?_getD, hr1]; rfl
      rw [show i = ((0 : Int) + (i : Int)).toNat by omega] at hv1
      k_steps
      rename Fr _ _ _ _ => Fn
      rename News _ _ _ _ => Nn
      rename _ = Data.cell (some (Value.int _ u)) => d2n
      rename_i h91 o2n h92
      have Ni := News.sub Nn (news' := (D, W.listOf ys.toArray ys.length) :: (lo, W.listOf los.toArray klo) :: (L' + 1 + 1 + 1, o3) :: (L' + 1 + 1, _) :: (L' + 1, o1) :: (ld, W.listOf lvs.toArray kl) :: (rt ++ tl ++ own)) (sub_cons (by k_mem) (sub_cons (by k_mem) (sub_cons (by k_mem) (sub_cons (by k_mem) (sub_cons (by k_mem) (sub_cons (by k_mem) fun q hq => .tail _ (.tail _ (.tail _ (.tail _ (.tail _ (.tail _ hq)))))))))))
      refine' Mine.list_J (LeK (L' + 1) (L' + 1 + 1) (L' + 1 + 1 + 1) ld lo o1 o2n lvs los kl klo (rt ++ tl ++ own) (qs.map fun q => colsOf q.1) r1) ?ihh Fn Ni ?ihlo ?ihj ?iturn ?idone
      case ihh => rfl
      case ihlo =>
        refine List.forall_mem_cons.mpr ⟨Nat.ne_of_gt hlt.2.2.2.1, List.forall_mem_cons.mpr ⟨hD3, List.forall_mem_cons.mpr ⟨hD2, List.forall_mem_cons.mpr ⟨hD1, List.forall_mem_cons.mpr ⟨?_, OwnOff.ne hT (.tail _ (.tail _ (.tail _ (.head _))))⟩⟩⟩⟩⟩
        exact hoff (ld, W.listOf lvs.toArray kl) (List.mem_append_right _ (.tail _ (.tail _ (.tail _ (.head _)))))
      case ihj => exact ⟨o3, v3, mext ["beaten", "least", "leads"] ⟨rfl, rfl, rfl, trivial⟩ (by intro y hy; simp only [Off] at hy; simp [leMap, mput, mnil, hy]), rfl, d3⟩
      case iturn =>
        rintro i2 v m₁ nx h tk own2 hv hmem hoff3 ⟨o3', v3', rfl, rfl, d3'⟩ F₅ N₅
        simp only [List.cons_append] at N₅
        clear Fn Nn Ni
        have hv2 : ys[i2]? = some v := by simpa using hv
        have hi2 : i2 < ys.length := (List.getElem?_eq_some_iff.mp hv2).1
        obtain ⟨r2, hr2⟩ : ∃ r, (qs.map fun q => colsOf q.1)[i2]? = some r := ⟨_, List.getElem?_eq_getElem (by omega)⟩
        obtain ⟨t2, us2, k2, hv3, hm2, hI2⟩ := hr.get hr2
        have hz2 := hrw5 _ (List.mem_of_getElem? hr2)
        obtain rfl : v = .ref t2 := Option.some.inj (hv2.symm.trans hv3)
        have hT2 : OwnOff (rt ++ tl ++ own ++ own2) [L' + 1, L' + 1 + 1, L' + 1 + 1 + 1] := fun q hq r hr3 => by
          simp only [List.mem_cons, List.not_mem_nil, or_false] at hr3
          rcases List.mem_append.mp hq with hq | hq
          · rcases hr3 with rfl | rfl | rfl
            · exact hT q hq _ (.head _)
            · exact hT q hq _ (.tail _ (.head _))
            · exact hT q hq _ (.tail _ (.tail _ (.head _)))
          · rcases hr3 with rfl | rfl | rfl
            · exact (hoff3 _ (.tail _ (.tail _ (.tail _ (.head _)))) q hq).symm
            · exact (hoff3 _ (.tail _ (.tail _ (.head _))) q hq).symm
            · exact (hoff3 _ (.tail _ (.head _)) q hq).symm
        have hmD : (D, W.listOf ys.toArray ys.length) ∈ rt ++ tl ++ own ++ own2 := List.mem_append_right _ hmem
        have hmr1 : (t1, W.listOf us1.toArray k1) ∈ rt ++ tl ++ own ++ own2 := List.mem_append_left _ (List.mem_append_left _ hm1)
        have hmr2 : (t2, W.listOf us2.toArray k2) ∈ rt ++ tl ++ own ++ own2 := List.mem_append_left _ (List.mem_append_left _ hm2)
        have hul1 := hI1.length
        have hul2 := hI2.length
        rw [List.length_map] at hul1 hul2
        k_steps
        rename IsRange _ _ _ _ _ _ _ _ => hrg5
        rename Fr _ _ _ _ => Fn
        rename News _ _ _ _ => Nn
        rename _ = Data.cell (some (Value.ref t2)) => d3n
        rename_i h71 o3n F71 N71 h72 tk7 t71 t72 t73 k7
        clear F71 N71 k7
        refine' Mine.srcRT_L 5 (fun i5 ys5 => ys5.length = ((List.range i5).filter fun k => decide (r1.getD k 0 ≤ r2.getD k 0)).length) rfl Fn Nn hrg5 (by decide) (by decide) rfl rfl ?step5 ?fin5
        case step5 =>
          intro i5 ys5 u5 I5 oI5 C5 oC5 D5 m5 h5 tk5 E5 hi5 hJ5 hC5 hx5 F6 N6 off6 ne6
          clear Fn Nn
          obtain ⟨tt2, hu2⟩ := hI2.get i5 _ (getI (by omega))
          obtain ⟨tt1, hu1⟩ := hI1.get i5 _ (getI (by omega))
          have hw2 : us2[((0 : Int) + (i5 : Int)).toNat]? = some (.int ((r2.getD i5 0 : Nat) : Int) tt2) := by rw [show ((0 : Int) + (i5 : Int)).toNat = i5 by omega]; exact hu2
          have hw1 : us1[((0 : Int) + (i5 : Int)).toNat]? = some (.int ((r1.getD i5 0 : Nat) : Int) tt1) := by rw [show ((0 : Int) + (i5 : Int)).toNat = i5 by omega]; exact hu1
          clear hu1 hu2
          have hgd1 : (r1.map fun (n : Nat) => (n : Int)).getD ((0 : Int) + (i5 : Int)).toNat 0 = ((r1.getD i5 0 : Nat) : Int) := by rw [show ((0 : Int) + (i5 : Int)).toNat = i5 by omega, List.getD_eq_getElem?_getD, getI (by omega)]; rfl
          k_steps
          · rename Fr _ _ _ _ => Fz
            rename News _ _ _ _ => Nz
            have hge : r1.getD i5 0 ≤ r2.getD i5 0 := by omega
            refine CmpEnd.intro _ Fz Nz sub_self off6 ⟨rfl, ?_⟩
            rw [List.length_append, List.range_succ, List.filter_append, List.length_append, hJ5, List.filter_cons_of_pos (p := fun k => decide (r1.getD k 0 ≤ r2.getD k 0)) (decide_eq_true hge)]; rfl
          · rename Fr _ _ _ _ => Fz
            rename News _ _ _ _ => Nz
            have hge : ¬ r1.getD i5 0 ≤ r2.getD i5 0 := by omega
            refine CmpEnd.intro _ Fz Nz sub_self off6 ⟨rfl, ?_⟩
            rw [List.range_succ, List.filter_append, List.length_append, hJ5, List.filter_cons_of_neg (p := fun k => decide (r1.getD k 0 ≤ r2.getD k 0)) (by rw [decide_eq_false hge]; decide)]; rfl
        case fin5 =>
          intro g9 ys5 hJ5
          clear Fn Nn
          have hfl := List.length_filter_le (fun k => decide (r1.getD k 0 ≤ r2.getD k 0)) (List.range 5)
          rw [List.length_range] at hfl
          have htk : (qs.map fun q => colsOf q.1).take (i2 + 1) = (qs.map fun q => colsOf q.1).take i2 ++ [r2] := by rw [List.take_add_one, hr2]; rfl
          have hbt : beats r2 r1 = (ys5.length == 0) := by rw [hJ5]; rfl
          k_steps
          · rename Fr _ _ _ _ => Fz
            rename News _ _ _ _ => Nz
            have h0 : ys5.length = 0 := by omega
            have hany : (((qs.map fun q => colsOf q.1).take (i2 + 1)).any fun r => beats r r1) = true := by
              rw [htk, List.any_append, List.any_cons, hbt, h0]; simp
            refine JEnd.intro ((lo, W.listOf los.toArray klo) :: (L' + 1 + 1 + 1, o3n) :: (L' + 1 + 1, o2n) :: (L' + 1, o1) :: (ld, W.listOf lvs.toArray kl) :: (rt ++ tl ++ own)) Fz Nz (sub_cons (by k_mem) (sub_cons (by k_mem) (sub_cons (by k_mem) (sub_cons (by k_mem) (sub_cons (by k_mem) fun q hq => .tail _ (.tail _ (.tail _ (.tail _ (.tail _ (.tail _ (List.mem_append_left _ hq)))))))))))
              (fun q hq => .tail _ (.tail _ (.tail _ (.tail _ (.tail _ (.tail _ (List.mem_append_right _ hq)))))))
              (List.forall_mem_cons.mpr ⟨fun q hq => hoff3 _ (.head _) q hq, List.forall_mem_cons.mpr ⟨fun q hq => hoff3 _ (.tail _ (.head _)) q hq, List.forall_mem_cons.mpr ⟨fun q hq => hoff3 _ (.tail _ (.tail _ (.head _))) q hq, List.forall_mem_cons.mpr ⟨fun q hq => hoff3 _ (.tail _ (.tail _ (.tail _ (.head _)))) q hq, List.forall_mem_cons.mpr ⟨fun q hq => hoff3 _ (.tail _ (.tail _ (.tail _ (.tail _ (.head _))))) q hq, fun p hp => hoff3 p (.tail _ (.tail _ (.tail _ (.tail _ (.tail _ hp)))))⟩⟩⟩⟩⟩)
              ⟨_, _, by first | (rw [hany]; done) | (rw [hany]; exact mext ["beaten", "least", "leads"] ⟨rfl, rfl, rfl, trivial⟩ (by intro y hy; simp only [Off] at hy; simp [leMap, mput, mnil, hy])), rfl, d3n⟩
          · rename Fr _ _ _ _ => Fz
            rename News _ _ _ _ => Nz
            have h0 : (ys5.length == 0) = false := by rw [beq_eq_false_iff_ne]; omega
            have hany : (((qs.map fun q => colsOf q.1).take (i2 + 1)).any fun r => beats r r1) = (((qs.map fun q => colsOf q.1).take i2).any fun r => beats r r1) := by
              rw [htk, List.any_append, List.any_cons, hbt, h0]; simp
            refine JEnd.intro ((lo, W.listOf los.toArray klo) :: (L' + 1 + 1 + 1, o3n) :: (L' + 1 + 1, o2n) :: (L' + 1, o1) :: (ld, W.listOf lvs.toArray kl) :: (rt ++ tl ++ own)) Fz Nz (sub_cons (by k_mem) (sub_cons (by k_mem) (sub_cons (by k_mem) (sub_cons (by k_mem) (sub_cons (by k_mem) fun q hq => .tail _ (.tail _ (.tail _ (.tail _ (.tail _ (.tail _ (List.mem_append_left _ hq)))))))))))
              (fun q hq => .tail _ (.tail _ (.tail _ (.tail _ (.tail _ (.tail _ (List.mem_append_right _ hq)))))))
              (List.forall_mem_cons.mpr ⟨fun q hq => hoff3 _ (.head _) q hq, List.forall_mem_cons.mpr ⟨fun q hq => hoff3 _ (.tail _ (.head _)) q hq, List.forall_mem_cons.mpr ⟨fun q hq => hoff3 _ (.tail _ (.tail _ (.head _))) q hq, List.forall_mem_cons.mpr ⟨fun q hq => hoff3 _ (.tail _ (.tail _ (.tail _ (.head _)))) q hq, List.forall_mem_cons.mpr ⟨fun q hq => hoff3 _ (.tail _ (.tail _ (.tail _ (.tail _ (.head _))))) q hq, fun p hp => hoff3 p (.tail _ (.tail _ (.tail _ (.tail _ (.tail _ hp)))))⟩⟩⟩⟩⟩)
              ⟨_, _, by first | (rw [hany]; done) | (rw [hany]; exact mext ["beaten", "least", "leads"] ⟨rfl, rfl, rfl, trivial⟩ (by intro y hy; simp only [Off] at hy; simp [leMap, mput, mnil, hy])), rfl, d3n⟩
      case idone =>
        rintro m₁ nx h tk ⟨o3', v3', rfl, rfl, d3'⟩ F₅ N₅
        clear Fn Nn Ni
        have hlz9 : los.length ≤ 100 := by
          have := hlos.length
          rw [leastTo, List.length_map] at this
          have := List.length_filter_le (fun i => !((qs.map fun q => colsOf q.1).any fun r => beats r ((qs.map fun q => colsOf q.1).getD i []))) (List.range i)
          rw [List.length_range] at this
          omega
        have hsz : ys.toArray.size = (qs.map fun q => colsOf q.1).length := by rw [List.size_toArray]; omega
        rw [hsz, List.take_length] at F₅
        have hsuc : leastTo (qs.map fun q => colsOf q.1) (i + 1) = leastTo (qs.map fun q => colsOf q.1) i ++ ([i].filter fun i => !((qs.map fun q => colsOf q.1).any fun r => beats r ((qs.map fun q => colsOf q.1).getD i []))).map fun i => stOf [97 + i] := by
          rw [leastTo, List.range_succ, List.filter_append, List.map_append]; rfl
        k_steps
        · rename _ = true => hbT
          refine JEnd.intro ((lo, W.listOf los.toArray klo) :: (L' + 1 + 1 + 1, o3') :: (L' + 1 + 1, o2n) :: (L' + 1, o1) :: (D, W.listOf ys.toArray ys.length) :: (ld, W.listOf lvs.toArray kl) :: (rt ++ tl)) F₅ N₅ (sub_cons (by k_mem) (sub_cons (by k_mem) (sub_cons (by k_mem) (sub_cons (by k_mem) (sub_cons (by k_mem) (sub_cons (by k_mem) fun q hq => .tail _ (.tail _ (.tail _ (.tail _ (.tail _ (.tail _ (List.mem_append_left _ hq))))))))))))
            (fun q hq => .tail _ (.tail _ (.tail _ (.tail _ (.tail _ (.tail _ (List.mem_append_right _ hq)))))))
            (List.forall_mem_cons.mpr ⟨fun q hq => hoff2 _ (.head _) q hq, List.forall_mem_cons.mpr ⟨fun q hq => hoff2 _ (.tail _ (.head _)) q hq, List.forall_mem_cons.mpr ⟨fun q hq => hoff2 _ (.tail _ (.tail _ (.head _))) q hq, fun p hp => hoff2 p (.tail _ (.tail _ (.tail _ hp)))⟩⟩⟩)
            ⟨_, lo, los, klo, o1, o2n, o3', _, _, rfl, rfl, d1, d2n, d3', ?_, hlt, hAl⟩
          rw [hsuc, List.filter_cons_of_neg (by rw [hgD, hbT]; decide), List.filter_nil, List.map_nil, List.append_nil]; exact hlos
        · rename _ = false => hbT
          rename Fr _ _ _ _ => Fz
          rename News _ _ _ _ => Nz
          rw [item_ab (by omega)] at Nz
          refine JEnd.intro ((lo, W.listOf (los ++ [_]).toArray (klo + 1)) :: (L' + 1 + 1 + 1, o3') :: (L' + 1 + 1, o2n) :: (L' + 1, o1) :: (D, W.listOf ys.toArray ys.length) :: (ld, W.listOf lvs.toArray kl) :: (rt ++ tl)) Fz Nz (sub_cons (by k_mem) (sub_cons (by k_mem) (sub_cons (by k_mem) (sub_cons (by k_mem) (sub_cons (by k_mem) (sub_cons (by k_mem) fun q hq => .tail _ (.tail _ (.tail _ (.tail _ (.tail _ (.tail _ (List.mem_append_left _ hq))))))))))))
            (fun q hq => .tail _ (.tail _ (.tail _ (.tail _ (.tail _ (.tail _ (List.mem_append_right _ hq)))))))
            (List.forall_mem_cons.mpr ⟨fun q hq => hoff2 _ (.head _) q hq, List.forall_mem_cons.mpr ⟨fun q hq => hoff2 _ (.tail _ (.head _)) q hq, List.forall_mem_cons.mpr ⟨fun q hq => hoff2 _ (.tail _ (.tail _ (.head _))) q hq, fun p hp => hoff2 p (.tail _ (.tail _ (.tail _ hp)))⟩⟩⟩)
            ⟨_, lo, _, _, o1, o2n, o3', _, _, rfl, rfl, d1, d2n, d3', ?_, hlt, hAl⟩
          rw [hsuc, List.filter_cons_of_pos (by rw [hgD, hbT]; rfl), List.filter_nil]; exact hlos.snoc
end
end Mine

theorem Mine.tt_p_pla : True := by w_top off; exact trivial
namespace Mine
-- LAW 03 in plain words: the words read; the sorted names
abbrev wsN : List Nat := [10, 9, 13, 32]
theorem lexQ_lead {l : List Nat} (h : ∀ x ∈ l, x = 32 ∨ x = 9) (k : Nat) (hk : k < 6) (rest : List Nat) : ∀ acc, lexQ (l ++ [97 + k, 34] ++ rest) acc = (acc ++ l ++ [97 + k], rest) := by
  induction l with
  | nil =>
    intro acc
    rw [List.nil_append, List.append_nil]
    show lexQ ((97 + k) :: 34 :: rest) acc = _
    rw [lexQ_o (by omega) (by omega), lexQ_q]
  | cons x r ih =>
    intro acc
    have hx := h x (.head _)
    show lexQ (x :: (r ++ [97 + k, 34] ++ rest)) acc = _
    rw [lexQ_o (by omega) (by omega), ih (fun y hy => h y (.tail _ hy))]
    simp only [List.append_assoc, List.cons_append, List.nil_append]
theorem lexB_lead {l : List Nat} (k : Nat) (hk : k < 6) (rest : List Nat) : ∀ acc, lexB wsN ((l.flatMap fun c => [92, c]) ++ [97 + k, 10] ++ rest) acc = (acc ++ l ++ [97 + k], rest) := by
  induction l with
  | nil =>
    intro acc
    rw [List.append_nil]
    show lexB wsN ((97 + k) :: 10 :: rest) acc = _
    rw [lexB_o (by simp only [List.mem_cons, List.not_mem_nil, or_false]; omega) (by omega), lexB_w (by decide)]
  | cons x r ih =>
    intro acc
    show lexB wsN (92 :: x :: ((r.flatMap fun c => [92, c]) ++ [97 + k, 10] ++ rest)) acc = _
    rw [lexB_e (by decide), List.tail_cons, List.take_succ_cons, List.take_zero, ih]
    simp only [List.append_assoc, List.cons_append, List.nil_append]
theorem lexO_word {q : List Nat × Nat} (h : ∀ x ∈ q.1, x = 32 ∨ x = 9) (k : Nat) (hk : k < 6) (rest : List Nat) : lexO wsN (wordT q k ++ rest) = (q.1 ++ [97 + k], rest) := by
  unfold wordT
  split
  · obtain ⟨l, b⟩ := q
    cases l with
    | nil =>
      show lexO wsN ((97 + k) :: 10 :: rest) = _
      rw [lexO_o (by simp only [List.mem_cons, List.not_mem_nil, or_false]; omega) (by omega) (by omega), lexB_w (by decide)]; rfl
    | cons x r =>
      show lexO wsN (92 :: x :: ((r.flatMap fun c => [92, c]) ++ [97 + k, 10] ++ rest)) = _
      rw [lexO_e (by decide), List.tail_cons, List.take_succ_cons, List.take_zero, lexB_lead k hk]
      rfl
  · show lexO wsN (34 :: (q.1 ++ [97 + k, 34] ++ rest)) = _
    rw [lexO_q (by decide), lexQ_lead h k hk]; rfl
def wordsFrom : List (List Nat × Nat) → Nat → List Wd
  | [], _ => []
  | q :: r, k => (q.1, 97 + k) :: wordsFrom r (k + 1)
theorem toks_from : ∀ (l : List (List Nat × Nat)) (k : Nat), (∀ q ∈ l, ∀ x ∈ q.1, x = 32 ∨ x = 9) → k + l.length ≤ 6 → Toks wsN (textGo l k) ((wordsFrom l k).map fun q => q.1 ++ [q.2])
  | [], _, _, _ => .nil rfl
  | q :: r, k, h, hk => by
    rw [List.length_cons] at hk
    have hw := lexO_word (h q (.head _)) k (by omega) (textGo r (k + 1))
    exact .cons hw (by simp) (toks_from r (k + 1) (fun q hq => h q (.tail _ hq)) (by omega))
-- the names in order
theorem rising_one : ∀ (r : List Nat) (x : Nat), risingS (stOf [x]) (r.map fun c => stOf [c]) = true → (x :: r).Pairwise (· ≤ ·)
  | [], x, _ => List.pairwise_singleton _ _
  | y :: r, x, h => by
    rw [List.map_cons, risingS, Bool.and_eq_true] at h
    have hy := rising_one r y h.2
    have hxy : x ≤ y := by
      have h1 := h.1
      refine Nat.le_of_not_lt fun hlt => ?_
      have : Spec.ltCps (stOf [y]).cps.toList (stOf [x]).cps.toList = true := by
        show Spec.ltCps [y] [x] = true
        simp [Spec.ltCps, hlt]
      rw [this] at h1
      exact absurd h1 (by decide)
    refine List.Pairwise.cons (fun z hz => ?_) hy
    rcases List.mem_cons.mp hz with rfl | hz
    · exact hxy
    · exact Nat.le_trans hxy (List.rel_of_pairwise_cons hy hz)
theorem sorted_one {r : List Nat} (h : sortedS (r.map fun c => stOf [c]) = true) : r.Pairwise (· ≤ ·) := by
  cases r with
  | nil => exact .nil
  | cons x r => exact rising_one r x h
theorem perm_names {ss : List Str} {ns : List Nat} (h : ss.Perm (ns.map fun c => stOf [c])) : ∃ ms : List Nat, ss = (ms.map fun c => stOf [c]) ∧ ms.Perm ns := by
  have hall : ∀ x ∈ ss, ∃ c, x = stOf [c] := fun x hx => by
    obtain ⟨c, _, rfl⟩ := List.mem_map.mp (h.subset hx)
    exact ⟨c, rfl⟩
  have key : ∀ l : List Str, (∀ x ∈ l, ∃ c, x = stOf [c]) → ∃ ms : List Nat, l = ms.map fun c => stOf [c] := by
    intro l
    induction l with
    | nil => exact fun _ => ⟨[], rfl⟩
    | cons x r ih =>
      intro hx
      obtain ⟨c, rfl⟩ := hx x (.head _)
      obtain ⟨ms, rfl⟩ := ih fun y hy => hx y (.tail _ hy)
      exact ⟨c :: ms, rfl⟩
  obtain ⟨ms, rfl⟩ := key ss hall
  refine ⟨ms, rfl, ?_⟩
  have h2 := h.map (fun s : Str => s.cps.toList.headD 0)
  rw [List.map_map, List.map_map] at h2
  have e : ((fun s : Str => s.cps.toList.headD 0) ∘ fun c : Nat => stOf [c]) = id := rfl
  rw [e, List.map_id, List.map_id] at h2
  exact h2
theorem names_eq {ss : List Str} {ns ms : List Nat} (h : ss.Perm (ns.map fun c => stOf [c])) (hs : sortedS ss = true) (hp : ns.Perm ms) (hm : ms.Pairwise (· ≤ ·)) : ss = ms.map fun c => stOf [c] := by
  obtain ⟨us, rfl, hu⟩ := perm_names h
  have h1 := sorted_one hs
  have e : us = ms := List.Perm.eq_of_pairwise (fun a b _ _ h1 h2 => Nat.le_antisymm h1 h2) h1 hm (hu.trans hp)
  rw [e]
end Mine

theorem Mine.tt_p_plb : True := by w_top off; exact trivial
namespace Mine
-- LAW 03 in plain words: the inner loop as filters; one lead before another
theorem filter_ne_mid {pre l : List Ent} {e : Ent} (h : ((pre ++ e :: l).map (·.c)).Nodup) : (pre ++ e :: l).filter (fun x => x.c != e.c) = pre ++ l := by
  rw [List.map_append, List.map_cons] at h
  obtain ⟨h1, h2, h3⟩ := List.nodup_append.mp h
  have hc := List.nodup_cons.mp h2
  rw [List.filter_append, List.filter_cons_of_neg (by simp)]
  congr 1
  · rw [List.filter_eq_self]
    intro x hx
    rw [bne_iff_ne]
    exact h3 _ (List.mem_map_of_mem hx) _ (.head _)
  · rw [List.filter_eq_self]
    intro x hx
    rw [bne_iff_ne]
    exact fun q => hc.1 (q ▸ List.mem_map_of_mem hx)
def oldE (tk : Nat) (e : Ent) : Bool := decide (e.stamp < tk)
def keepE (tk : Nat) (lead : List Nat) (e : Ent) : Bool := !oldE tk e && (lessL e.lead lead || !lessL lead e.lead)
theorem inFold (tk : Nat) (lead : List Nat) : ∀ (l pre : List Ent) (told : List Nat) (st : Bool), ((pre ++ l).map (·.c)).Nodup →
    l.foldl (inStep tk lead) (pre ++ l, told, st) = (pre ++ l.filter (keepE tk lead), told ++ (l.filter (oldE tk)).map (·.c), st && !(l.any fun e => !oldE tk e && lessL e.lead lead))
  | [], pre, told, st, _ => by simp
  | e :: l, pre, told, st, h => by
    have h2 : ((pre ++ l).map (·.c)).Nodup := by
      refine List.Nodup.sublist (List.Sublist.map _ (List.Sublist.append (List.Sublist.refl _) (List.sublist_cons_self _ _))) h
    have h3 : ((pre ++ [e]) ++ l) = pre ++ e :: l := by rw [List.append_assoc]; rfl
    rw [List.foldl_cons]
    by_cases ho : e.stamp < tk
    · have e1 : inStep tk lead (pre ++ e :: l, told, st) e = (pre ++ l, told ++ [e.c], st) := by
        rw [inStep, if_pos ho]; dsimp only; rw [filter_ne_mid h]
      have eo : oldE tk e = true := decide_eq_true ho
      rw [e1, inFold tk lead l pre _ st h2, List.filter_cons_of_neg (by rw [keepE, eo]; simp), List.filter_cons_of_pos eo, List.any_cons, eo]
      simp
    · have eo : oldE tk e = false := decide_eq_false ho
      cases hb : lessL e.lead lead with
      | true =>
        have e1 : inStep tk lead (pre ++ e :: l, told, st) e = ((pre ++ [e]) ++ l, told, false) := by
          rw [inStep, if_neg ho, if_pos hb, h3]
        rw [e1, inFold tk lead l (pre ++ [e]) _ _ (by rw [h3]; exact h), List.filter_cons_of_pos (by rw [keepE, eo, hb]; rfl), List.filter_cons_of_neg (by rw [eo]; decide), List.any_cons, eo, hb]
        simp
      | false =>
        cases hd : lessL lead e.lead with
        | true =>
          have e1 : inStep tk lead (pre ++ e :: l, told, st) e = (pre ++ l, told, st) := by
            rw [inStep, if_neg ho, if_neg (by rw [hb]; decide), if_pos hd]; dsimp only; rw [filter_ne_mid h]
          rw [e1, inFold tk lead l pre _ st h2, List.filter_cons_of_neg (by rw [keepE, eo, hb, hd]; decide), List.filter_cons_of_neg (by rw [eo]; decide), List.any_cons, eo, hb]
          simp
        | false =>
          have e1 : inStep tk lead (pre ++ e :: l, told, st) e = ((pre ++ [e]) ++ l, told, st) := by
            rw [inStep, if_neg ho, if_neg (by rw [hb]; decide), if_neg (by rw [hd]; decide), h3]
          rw [e1, inFold tk lead l (pre ++ [e]) _ _ (by rw [h3]; exact h), List.filter_cons_of_pos (by rw [keepE, eo, hb, hd]; rfl), List.filter_cons_of_neg (by rw [eo]; decide), List.any_cons, eo, hb]
          simp
theorem inF_eq {tk : Nat} {lead : List Nat} {win : List Ent} {told : List Nat} (h : (win.map (·.c)).Nodup) :
    inF tk lead win told = (win.filter (keepE tk lead), told ++ (win.filter (oldE tk)).map (·.c), !(win.any fun e => !oldE tk e && lessL e.lead lead)) := by
  have := inFold tk lead win [] told true h
  simpa [inF] using this
-- the leads there are
def leadsN : Nat → List (List Nat)
  | 0 => [[]]
  | n + 1 => [] :: ((leadsN n).map (32 :: ·) ++ (leadsN n).map (9 :: ·))
theorem mem_leadsN : ∀ (n : Nat) (l : List Nat), (∀ x ∈ l, x = 32 ∨ x = 9) → l.length ≤ n → l ∈ leadsN n
  | 0, l, _, h => by rw [List.length_eq_zero_iff.mp (Nat.le_zero.mp h)]; exact .head _
  | n + 1, [], _, _ => .head _
  | n + 1, x :: l, hx, h => by
    have ih := mem_leadsN n l (fun y hy => hx y (.tail _ hy)) (by simpa using h)
    refine .tail _ (List.mem_append.mpr ?_)
    rcases hx x (.head _) with rfl | rfl
    · exact .inl (List.mem_map_of_mem ih)
    · exact .inr (List.mem_map_of_mem ih)
theorem less_dec : ((leadsN 4).all fun a => (leadsN 4).all fun b => lessL a b == beats (colsOf a) (colsOf b)) = true := by decide +kernel
theorem less_beats {a b : List Nat} (ha : LeadOk a) (hb : LeadOk b) : lessL a b = beats (colsOf a) (colsOf b) :=
  beq_iff_eq.mp (List.all_eq_true.mp (List.all_eq_true.mp less_dec a (mem_leadsN 4 a ha.1 ha.2)) b (mem_leadsN 4 b hb.1 hb.2))
theorem beats_iff {r q : List Nat} : beats r q = true ↔ ∀ k, k < 5 → r.getD k 0 < q.getD k 0 := by
  rw [beats, beq_iff_eq, List.length_eq_zero_iff, List.filter_eq_nil_iff]
  constructor
  · intro h k hk
    have := h k (List.mem_range.mpr hk)
    rw [decide_eq_true_iff] at this
    omega
  · intro h k hk
    have := h k (List.mem_range.mp hk)
    rw [decide_eq_true_iff]; omega
theorem beats_trans {a b c : List Nat} (h : beats a b = true) (k : beats b c = true) : beats a c = true :=
  beats_iff.mpr fun i hi => Nat.lt_trans (beats_iff.mp h i hi) (beats_iff.mp k i hi)
theorem beats_irr {a : List Nat} : beats a a = false := by
  cases h : beats a a with
  | false => rfl
  | true => exact absurd (beats_iff.mp h 0 (by decide)) (Nat.lt_irrefl _)
theorem less_trans {a b c : List Nat} (ha : LeadOk a) (hb : LeadOk b) (hc : LeadOk c) (h : lessL a b = true) (k : lessL b c = true) : lessL a c = true := by
  rw [less_beats ha hb] at h
  rw [less_beats hb hc] at k
  rw [less_beats ha hc]; exact beats_trans h k
theorem less_irr {a : List Nat} (ha : LeadOk a) : lessL a a = false := by rw [less_beats ha ha]; exact beats_irr
end Mine

theorem Mine.tt_p_plc : True := by w_top off; exact trivial
namespace Mine
-- LAW 03 in plain words: what holds behind each turn
def entW (e : Ent) : Wd := (e.lead, e.c)
def Live (P : List Wd) (S : TS) (w : Wd) : Prop := w ∈ P ∨ w ∈ S.queue ∨ (∃ e ∈ S.win, entW e = w) ∨ w.2 ∈ S.told
structure Inv (O P : List Wd) (S : TS) : Prop where
  sp : ∀ w ∈ P, w ∈ O
  sq : ∀ w ∈ S.queue, w ∈ O
  sw : ∀ e ∈ S.win, entW e ∈ O
  nd : (P.map (·.2) ++ (S.queue.map (·.2) ++ (S.win.map (·.c) ++ S.told))).Nodup
  tO : ∀ c ∈ S.told, ∃ w ∈ O, w.2 = c ∧ ∀ x ∈ O, lessL x.1 w.1 = false
  tA : ∀ c ∈ S.told, ∀ w ∈ O, w.2 = c → (∀ q ∈ P, lessL w.1 q.1 = false) ∧ (∀ q ∈ S.queue, lessL w.1 q.1 = false) ∧ (∀ e ∈ S.win, lessL w.1 e.lead = false)
  dr : ∀ w ∈ O, Live P S w ∨ ∃ x ∈ O, lessL x.1 w.1 = true ∧ Live P S x
  wi : ∀ e ∈ S.win, ∀ e' ∈ S.win, lessL e.lead e'.lead = false
  me : ∀ e ∈ S.win, ∀ (j : Nat) q, S.queue[j]? = some q → e.stamp ≤ S.taken + j → lessL e.lead q.1 = false ∧ lessL q.1 e.lead = false
  st : ∀ e ∈ S.win, e.stamp ≤ S.pushed ∧ S.taken ≤ e.stamp
  ba : S.pushed = S.taken + S.queue.length
  ln : P.length + S.queue.length + S.win.length + S.told.length ≤ 6
def headS : List Ent → Nat → Nat
  | [], _ => 0
  | e :: _, tk => e.stamp - tk
theorem headS_le {l : List Ent} {tk p : Nat} (h : ∀ e ∈ l, e.stamp ≤ p) : headS l tk ≤ p - tk := by
  cases l with
  | nil => exact Nat.zero_le _
  | cons e r => exact Nat.sub_le_sub_right (h e (.head _)) tk
def mu (S : TS) : Nat := (S.queue.length + S.win.length) * 49 + S.queue.length * 7 + headS S.win S.taken
section
variable {O : List Wd} (hO : ∀ w ∈ O, WdOk w) (hn : (O.map (·.2)).Nodup)
include hO hn
theorem name_inj {a b : Wd} (ha : a ∈ O) (hb : b ∈ O) (h : a.2 = b.2) : a = b := by
  have := List.pairwise_map.mp hn
  rcases List.mem_iff_getElem.mp ha with ⟨i, hi, rfl⟩
  rcases List.mem_iff_getElem.mp hb with ⟨j, hj, rfl⟩
  rcases Nat.lt_trichotomy i j with h1 | h1 | h1
  · exact absurd h (List.pairwise_iff_getElem.mp this i j hi hj h1)
  · subst h1; rfl
  · exact absurd h.symm (List.pairwise_iff_getElem.mp this j i hj hi h1)
def nextS (S : TS) (q : Wd) (qs : List Wd) : TS := ⟨qs, S.taken + 1, S.pushed, S.win.filter (keepE (S.taken + 1) q.1), S.told ++ (S.win.filter (oldE (S.taken + 1))).map (·.c)⟩
theorem inv_next {S : TS} {q : Wd} {qs : List Wd} (I : Inv O [] S) (hq : S.queue = q :: qs) : Inv O [q] (nextS S q qs) := by
  obtain ⟨isp, isq, isw, ind, itO, itA, idr, iwi, ime, ist, iba, iln⟩ := I
  rw [hq] at isq ind iln iba
  have lq := hO q (isq q (.head _))
  have old0 : ∀ e ∈ S.win, oldE (S.taken + 1) e = true → ∀ y ∈ O, Live [] S y → lessL y.1 e.lead = false := fun e he ho y hy hl => by
    have hs : e.stamp < S.taken + 1 := of_decide_eq_true ho
    rcases hl with h | h | ⟨e', h, rfl⟩ | h
    · cases h
    · obtain ⟨j, hj⟩ := List.mem_iff_getElem?.mp h
      exact (ime e he j y hj (by omega)).2
    · exact iwi e' h e he
    · exact (itA _ h y hy rfl).2.2 e he
  have oldU : ∀ e ∈ S.win, oldE (S.taken + 1) e = true → ∀ x ∈ O, lessL x.1 e.lead = false := fun e he ho x hx => by
    rcases idr x hx with h | ⟨y, hy, h1, h2⟩
    · exact old0 e he ho x hx h
    · cases hb : lessL x.1 e.lead with
      | false => rfl
      | true =>
        have := less_trans (hO y hy).1 (hO x hx).1 (hO _ (isw e he)).1 h1 hb
        rw [show (entW e).1 = e.lead from rfl, old0 e he ho y hy h2] at this; cases this
  have step : ∀ x, Live [] S x → Live [q] (nextS S q qs) x ∨ (x ∈ O ∧ lessL q.1 x.1 = true) := fun x hl => by
    rcases hl with h | h | ⟨e, h, rfl⟩ | h
    · cases h
    · rw [hq] at h
      rcases List.mem_cons.mp h with rfl | h
      · exact .inl (.inl (.head _))
      · exact .inl (.inr (.inl h))
    · cases ho : oldE (S.taken + 1) e with
      | true => exact .inl (.inr (.inr (.inr (List.mem_append_right _ (List.mem_map_of_mem (List.mem_filter.mpr ⟨h, ho⟩))))))
      | false =>
        cases hd : lessL q.1 e.lead with
        | true => exact .inr ⟨isw e h, hd⟩
        | false => exact .inl (.inr (.inr (.inl ⟨e, List.mem_filter.mpr ⟨h, by rw [keepE, ho, hd]; simp⟩, rfl⟩)))
    · exact .inl (.inr (.inr (.inr (List.mem_append_left _ h))))
  have hperm : (S.win.filter (oldE (S.taken + 1)) ++ S.win.filter (fun e => !oldE (S.taken + 1) e)).Perm S.win := List.filter_append_perm _ _
  have hsub : (S.win.filter (keepE (S.taken + 1) q.1)).Sublist (S.win.filter fun e => !oldE (S.taken + 1) e) := by
    have e1 : S.win.filter (keepE (S.taken + 1) q.1) = (S.win.filter fun e => !oldE (S.taken + 1) e).filter fun e => lessL e.lead q.1 || !lessL q.1 e.lead := by
      rw [List.filter_filter]
      refine List.filter_congr fun e _ => ?_
      rw [keepE, Bool.and_comm]
    rw [e1]; exact List.filter_sublist
  refine ⟨?_, fun w h => isq w (.tail _ h), fun e h => isw e (List.mem_filter.mp h).1, ?_, ?_, ?_, ?_, fun e h e' h' => iwi e (List.mem_filter.mp h).1 e' (List.mem_filter.mp h').1, ?_, ?_, ?_, ?_⟩
  · intro w h; rw [List.mem_singleton.mp h]; exact isq q (.head _)
  · have p1 : ((S.win.filter fun e => !oldE (S.taken + 1) e).map (·.c) ++ (S.told ++ (S.win.filter (oldE (S.taken + 1))).map (·.c))).Perm (S.win.map (·.c) ++ S.told) := by
      refine (List.perm_append_comm.append_left _).trans ?_
      rw [← List.append_assoc, ← List.map_append]
      exact ((List.perm_append_comm.trans hperm).map _).append_right _
    have p2 := List.Perm.append_left ([q].map (·.2) ++ qs.map (·.2)) p1
    have n1 : (([q].map (·.2) ++ qs.map (·.2)) ++ (S.win.map (·.c) ++ S.told)).Nodup := by simpa using ind
    have n2 := p2.symm.nodup n1
    rw [List.append_assoc] at n2
    refine n2.sublist ?_
    exact (List.Sublist.refl _).append ((List.Sublist.refl _).append ((hsub.map _).append (List.Sublist.refl _)))
  · intro c hc
    rcases List.mem_append.mp hc with hc | hc
    · exact itO c hc
    · obtain ⟨e, he, rfl⟩ := List.mem_map.mp hc
      obtain ⟨h1, h2⟩ := List.mem_filter.mp he
      exact ⟨entW e, isw e h1, rfl, oldU e h1 h2⟩
  · intro c hc w hw hwc
    rcases List.mem_append.mp hc with hc | hc
    · obtain ⟨_, t2, t3⟩ := itA c hc w hw hwc
      exact ⟨fun p hp => by rw [List.mem_singleton.mp hp]; exact t2 q (by rw [hq]; exact .head _), fun p hp => t2 p (by rw [hq]; exact .tail _ hp), fun e he => t3 e (List.mem_filter.mp he).1⟩
    · obtain ⟨e, he, rfl⟩ := List.mem_map.mp hc
      obtain ⟨h1, h2⟩ := List.mem_filter.mp he
      have hs : e.stamp < S.taken + 1 := of_decide_eq_true h2
      obtain rfl := name_inj hO hn hw (isw e h1) hwc
      refine ⟨fun p hp => ?_, fun p hp => ?_, fun e' he' => iwi e h1 e' (List.mem_filter.mp he').1⟩
      · rw [List.mem_singleton.mp hp]; exact (ime e h1 0 q (by rw [hq]; rfl) (by omega)).1
      · obtain ⟨j, hj⟩ := List.mem_iff_getElem?.mp hp
        exact (ime e h1 (j + 1) p (by rw [hq]; exact hj) (by omega)).1
  · intro w hw
    rcases idr w hw with h | ⟨x, hx, h1, h2⟩
    · rcases step w h with h | h
      · exact .inl h
      · exact .inr ⟨q, isq q (.head _), h.2, .inl (.head _)⟩
    · rcases step x h2 with h | h
      · exact .inr ⟨x, hx, h1, h⟩
      · exact .inr ⟨q, isq q (.head _), less_trans lq.1 (hO x hx).1 (hO w hw).1 h.2 h1, .inl (.head _)⟩
  · intro e he j p hj hs
    have hj' : qs[j]? = some p := hj
    have hs' : e.stamp ≤ S.taken + 1 + j := hs
    exact ime e (List.mem_filter.mp he).1 (j + 1) p (by rw [hq]; exact hj') (by omega)
  · intro e he
    obtain ⟨h1, h2⟩ := List.mem_filter.mp he
    rw [keepE, Bool.and_eq_true, Bool.not_eq_true'] at h2
    have h3 : ¬ e.stamp < S.taken + 1 := of_decide_eq_false h2.1
    exact ⟨(ist e h1).1, Nat.le_of_not_lt h3⟩
  · show S.pushed = S.taken + 1 + qs.length
    rw [List.length_cons] at iba; omega
  · have h1 := hsub.length_le
    have h2 := hperm.length_eq
    rw [List.length_append] at h2
    show 1 + qs.length + (S.win.filter _).length + (S.told ++ (S.win.filter _).map _).length ≤ 6
    rw [List.length_append, List.length_map]
    rw [List.length_cons, List.length_nil] at iln
    omega
theorem inv_drop {S : TS} {q : Wd} {e : Ent} (I : Inv O [q] S) (he : e ∈ S.win) (hb : lessL e.lead q.1 = true) : Inv O [] S := by
  obtain ⟨isp, isq, isw, ind, itO, itA, idr, iwi, ime, ist, iba, iln⟩ := I
  have hq := isp q (.head _)
  have lv : ∀ w, Live [q] S w → w = q ∨ Live [] S w := fun w h => by
    rcases h with h | h
    · exact .inl (List.mem_singleton.mp h)
    · exact .inr (.inr h)
  refine ⟨(fun _ h => nomatch h), isq, isw, ?_, itO, fun c hc w hw h => ⟨(fun _ h => nomatch h), (itA c hc w hw h).2⟩, fun w hw => ?_, iwi, ime, ist, iba, ?_⟩
  · exact (List.nodup_append.mp ind).2.1
  · rcases idr w hw with h | ⟨x, hx, h1, h2⟩
    · rcases lv w h with rfl | h
      · exact .inr ⟨entW e, isw e he, hb, .inr (.inr (.inl ⟨e, he, rfl⟩))⟩
      · exact .inl h
    · rcases lv x h2 with rfl | h
      · exact .inr ⟨entW e, isw e he, less_trans (hO _ (isw e he)).1 (hO _ hx).1 (hO w hw).1 hb h1, .inr (.inr (.inl ⟨e, he, rfl⟩))⟩
      · exact .inr ⟨x, hx, h1, h⟩
  · rw [List.length_cons, List.length_nil] at iln
    rw [List.length_nil]; omega
theorem inv_in {S : TS} {q : Wd} (I : Inv O [q] S) (hinc : ∀ e ∈ S.win, lessL e.lead q.1 = false ∧ lessL q.1 e.lead = false) : Inv O [] ⟨S.queue, S.taken, S.pushed, S.win ++ [⟨q.2, q.1, S.pushed⟩], S.told⟩ := by
  obtain ⟨isp, isq, isw, ind, itO, itA, idr, iwi, ime, ist, iba, iln⟩ := I
  have hq := isp q (.head _)
  have lv : ∀ w, Live [q] S w → Live [] ⟨S.queue, S.taken, S.pushed, S.win ++ [⟨q.2, q.1, S.pushed⟩], S.told⟩ w := fun w h => by
    rcases h with h | h | ⟨e, h, rfl⟩ | h
    · exact .inr (.inr (.inl ⟨_, List.mem_append_right _ (.head _), (List.mem_singleton.mp h).symm⟩))
    · exact .inr (.inl h)
    · exact .inr (.inr (.inl ⟨e, List.mem_append_left _ h, rfl⟩))
    · exact .inr (.inr (.inr h))
  refine ⟨(fun _ h => nomatch h), isq, ?_, ?_, itO, ?_, fun w hw => ?_, ?_, ?_, ?_, iba, ?_⟩
  · intro e he
    rcases List.mem_append.mp he with he | he
    · exact isw e he
    · rw [List.mem_singleton.mp he]; exact hq
  · refine List.Perm.nodup ?_ ind
    show ([q].map (·.2) ++ (S.queue.map (·.2) ++ (S.win.map (·.c) ++ S.told))).Perm ([] ++ (S.queue.map (·.2) ++ ((S.win ++ [(⟨q.2, q.1, S.pushed⟩ : Ent)]).map (·.c) ++ S.told)))
    rw [List.map_append, List.nil_append, List.append_assoc]
    show (q.2 :: (S.queue.map (·.2) ++ (S.win.map (·.c) ++ S.told))).Perm (S.queue.map (·.2) ++ (S.win.map (·.c) ++ (q.2 :: S.told)))
    rw [← List.append_assoc, ← List.append_assoc]
    exact List.perm_middle.symm
  · intro c hc w hw h
    obtain ⟨t1, t2, t3⟩ := itA c hc w hw h
    refine ⟨(fun _ h => nomatch h), t2, fun e he => ?_⟩
    rcases List.mem_append.mp he with he | he
    · exact t3 e he
    · rw [List.mem_singleton.mp he]; exact t1 q (.head _)
  · rcases idr w hw with h | ⟨x, hx, h1, h2⟩
    · exact .inl (lv w h)
    · exact .inr ⟨x, hx, h1, lv x h2⟩
  · intro e he e' he'
    rcases List.mem_append.mp he with he | he
    · rcases List.mem_append.mp he' with he' | he'
      · exact iwi e he e' he'
      · rw [List.mem_singleton.mp he']; exact (hinc e he).1
    · rw [List.mem_singleton.mp he]
      rcases List.mem_append.mp he' with he' | he'
      · exact (hinc e' he').2
      · rw [List.mem_singleton.mp he']; exact less_irr (hO q hq).1
  · intro e he j p hj hs
    rcases List.mem_append.mp he with he | he
    · exact ime e he j p hj hs
    · rw [List.mem_singleton.mp he] at hs
      have hj' : j < S.queue.length := (List.getElem?_eq_some_iff.mp hj).1
      have hs' : S.pushed ≤ S.taken + j := hs
      omega
  · intro e he
    rcases List.mem_append.mp he with he | he
    · exact ist e he
    · rw [List.mem_singleton.mp he]
      refine ⟨Nat.le_refl _, ?_⟩
      show S.taken ≤ S.pushed
      omega
  · show 0 + S.queue.length + (S.win ++ [_]).length + S.told.length ≤ 6
    rw [List.length_append, List.length_singleton]
    rw [List.length_cons, List.length_nil] at iln
    omega
theorem inv_back {S : TS} {q : Wd} (I : Inv O [q] S) (hinc : ∀ e ∈ S.win, lessL e.lead q.1 = false ∧ lessL q.1 e.lead = false) : Inv O [] ⟨S.queue ++ [q], S.taken, S.pushed + 1, S.win, S.told⟩ := by
  obtain ⟨isp, isq, isw, ind, itO, itA, idr, iwi, ime, ist, iba, iln⟩ := I
  have hq := isp q (.head _)
  have lv : ∀ w, Live [q] S w → Live [] ⟨S.queue ++ [q], S.taken, S.pushed + 1, S.win, S.told⟩ w := fun w h => by
    rcases h with h | h | h | h
    · exact .inr (.inl (List.mem_append_right _ h))
    · exact .inr (.inl (List.mem_append_left _ h))
    · exact .inr (.inr (.inl h))
    · exact .inr (.inr (.inr h))
  refine ⟨(fun _ h => nomatch h), ?_, isw, ?_, itO, ?_, fun w hw => ?_, iwi, ?_, fun e he => ⟨Nat.le_succ_of_le (ist e he).1, (ist e he).2⟩, ?_, ?_⟩
  · intro w h
    rcases List.mem_append.mp h with h | h
    · exact isq w h
    · rw [List.mem_singleton.mp h]; exact hq
  · refine List.Perm.nodup ?_ ind
    show ([q].map (·.2) ++ (S.queue.map (·.2) ++ (S.win.map (·.c) ++ S.told))).Perm ([] ++ ((S.queue ++ [q]).map (·.2) ++ (S.win.map (·.c) ++ S.told)))
    rw [List.map_append, List.nil_append, ← List.append_assoc]
    exact List.perm_append_comm.append_right _
  · intro c hc w hw h
    obtain ⟨t1, t2, t3⟩ := itA c hc w hw h
    refine ⟨(fun _ h => nomatch h), fun p hp => ?_, t3⟩
    rcases List.mem_append.mp hp with hp | hp
    · exact t2 p hp
    · exact t1 p hp
  · rcases idr w hw with h | ⟨x, hx, h1, h2⟩
    · exact .inl (lv w h)
    · exact .inr ⟨x, hx, h1, lv x h2⟩
  · intro e he j p hj hs
    have hj' : (S.queue ++ [q])[j]? = some p := hj
    have hlt : j < (S.queue ++ [q]).length := (List.getElem?_eq_some_iff.mp hj').1
    rw [List.length_append, List.length_singleton] at hlt
    by_cases h : j < S.queue.length
    · rw [List.getElem?_append_left h] at hj'
      exact ime e he j p hj' hs
    · have hjl : j = S.queue.length := by omega
      rw [List.getElem?_append_right (by omega), hjl, Nat.sub_self] at hj'
      cases hj'
      exact hinc e he
  · show S.pushed + 1 = S.taken + (S.queue ++ [q]).length
    rw [List.length_append, List.length_singleton]; omega
  · show 0 + (S.queue ++ [q]).length + S.win.length + S.told.length ≤ 6
    rw [List.length_append, List.length_singleton]
    rw [List.length_cons, List.length_nil] at iln
    omega
end
end Mine

theorem Mine.tt_p_pld : True := by w_top off; exact trivial
namespace Mine
-- LAW 03 in plain words: it ends, and what is told
section
variable {O : List Wd} (hO : ∀ w ∈ O, WdOk w) (hn : (O.map (·.2)).Nodup)
include hO hn
theorem inv_step {S : TS} {q : Wd} {qs : List Wd} {room : Nat} (I : Inv O [] S) (hq : S.queue = q :: qs) (hr : 1 ≤ room) : Inv O [] (outStep room S q qs) ∧ (outStep room S q qs).taken = S.taken + 1 ∧ mu (outStep room S q qs) + 1 ≤ mu S := by
  have I1 := inv_next hO hn I hq
  have hwn : (S.win.map (·.c)).Nodup := by
    have := I.nd
    exact (List.nodup_append.mp (List.nodup_append.mp (List.nodup_append.mp this).2.1).2.1).1
  have er := inF_eq (tk := S.taken + 1) (lead := q.1) (told := S.told) hwn
  have hba := I.ba
  have hln := I.ln
  rw [hq, List.length_cons] at hba
  rw [hq, List.length_cons, List.length_nil] at hln
  have hfl : (S.win.filter (keepE (S.taken + 1) q.1)).length ≤ S.win.length := List.length_filter_le _ _
  have hmu : mu S = (qs.length + 1 + S.win.length) * 49 + (qs.length + 1) * 7 + headS S.win S.taken := by rw [mu, hq, List.length_cons]
  unfold outStep
  rw [er]
  dsimp only
  cases hst : S.win.any (fun e => !oldE (S.taken + 1) e && lessL e.lead q.1) with
  | true =>
    rw [if_neg (by simp), if_neg (by simp)]
    obtain ⟨e, he, hb⟩ := List.any_eq_true.mp hst
    rw [Bool.and_eq_true, Bool.not_eq_true'] at hb
    have hk : e ∈ S.win.filter (keepE (S.taken + 1) q.1) := List.mem_filter.mpr ⟨he, by rw [keepE, hb.1, hb.2]; rfl⟩
    refine ⟨inv_drop hO hn I1 hk hb.2, rfl, ?_⟩
    rw [hmu]
    have h9 : headS (S.win.filter (keepE (S.taken + 1) q.1)) (S.taken + 1) ≤ S.pushed - (S.taken + 1) := headS_le fun e he => (I1.st e he).1
    rw [mu]
    dsimp only
    omega
  | false =>
    have hinc : ∀ e ∈ S.win.filter (keepE (S.taken + 1) q.1), lessL e.lead q.1 = false ∧ lessL q.1 e.lead = false := fun e he => by
      obtain ⟨h1, h2⟩ := List.mem_filter.mp he
      rw [keepE, Bool.and_eq_true, Bool.not_eq_true'] at h2
      have h3 := List.any_eq_false.mp hst e h1
      rw [h2.1] at h3
      have h4 : lessL e.lead q.1 = false := by simpa using h3
      have h5 := h2.2
      rw [h4] at h5
      exact ⟨h4, by simpa using h5⟩
    by_cases hlt : (S.win.filter (keepE (S.taken + 1) q.1)).length < room
    · rw [if_pos ⟨by simp, hlt⟩]
      have hni : q.2 ∉ (S.win.filter (keepE (S.taken + 1) q.1)).map (·.c) := by
        have h1 := I1.nd
        have h2 := (List.nodup_cons.mp h1).1
        exact fun h => h2 (List.mem_append_right [] (List.mem_append_right _ (List.mem_append_left _ h)))
      have hfs : (S.win.filter (keepE (S.taken + 1) q.1)).filter (fun x => x.c != q.2) = S.win.filter (keepE (S.taken + 1) q.1) := by
        rw [List.filter_eq_self]
        intro x hx
        rw [bne_iff_ne]
        exact fun h => hni (h ▸ List.mem_map_of_mem hx)
      rw [hfs]
      refine ⟨inv_in hO hn I1 hinc, rfl, ?_⟩
      rw [hmu]
      have h9 : headS (S.win.filter (keepE (S.taken + 1) q.1) ++ [⟨q.2, q.1, S.pushed⟩]) (S.taken + 1) ≤ S.pushed - (S.taken + 1) := headS_le fun e he => by
        rcases List.mem_append.mp he with he | he
        · exact (I1.st e he).1
        · rw [List.mem_singleton.mp he]; exact Nat.le_refl _
      rw [mu]
      dsimp only
      rw [List.length_append, List.length_singleton]
      omega
    · rw [if_neg (fun h => hlt h.2), if_pos (by simp)]
      refine ⟨inv_back hO hn I1 hinc, rfl, ?_⟩
      rw [hmu]
      have h9 : headS (S.win.filter (keepE (S.taken + 1) q.1)) (S.taken + 1) ≤ S.pushed - (S.taken + 1) := headS_le fun e he => (I1.st e he).1
      rw [mu]
      dsimp only
      rw [List.length_append, List.length_singleton]
      by_cases heq : (S.win.filter (keepE (S.taken + 1) q.1)).length = S.win.length
      · have hself : S.win.filter (keepE (S.taken + 1) q.1) = S.win := List.filter_sublist.eq_of_length heq
        have hst2 : ∀ e ∈ S.win, S.taken + 1 ≤ e.stamp := fun e he => (I1.st e (by show e ∈ S.win.filter _; rw [hself]; exact he)).2
        rw [hself]
        rw [hself] at hlt
        have h7 : headS S.win (S.taken + 1) + 1 ≤ headS S.win S.taken := by
          cases hw : S.win with
          | nil => rw [hw, List.length_nil] at hlt; omega
          | cons e0 r =>
            have := hst2 e0 (by rw [hw]; exact .head _)
            rw [headS, headS]; omega
        omega
      · omega
theorem tok_of {S : TS} (I : Inv O [] S) (hm : S.taken + mu S ≤ 400) : TOk S := by
  have hln := I.ln
  rw [List.length_nil] at hln
  have hba := I.ba
  refine ⟨fun w h => hO w (I.sq w h), by omega, I.ba, by omega, fun e he => ?_, by omega, fun c hc => ?_, by omega⟩
  · have h1 := hO _ (I.sw e he)
    have h2 := (I.st e he).1
    exact ⟨h1.1, h1.2.1, h1.2.2, by omega⟩
  · obtain ⟨w, hw, rfl, _⟩ := I.tO c hc
    exact (hO w hw).2
theorem run_ex {room : Nat} (hr : 1 ≤ room) : ∀ (n : Nat) (S : TS), mu S ≤ n → Inv O [] S → S.taken + mu S ≤ 400 → ∃ nn Fin, RunsN room nn S Fin ∧ Inv O [] Fin ∧ Fin.queue = []
  | n, S, hmn, I, hm => by
    cases hq : S.queue with
    | nil => exact ⟨0, S, .done (tok_of hO hn I hm) hq, I, hq⟩
    | cons q qs =>
      obtain ⟨I', ht, hmu⟩ := inv_step hO hn I hq hr
      cases n with
      | zero => omega
      | succ n =>
        obtain ⟨nn, Fin, h1, h2, h3⟩ := run_ex hr n _ (by omega) I' (by omega)
        exact ⟨nn + 1, Fin, .step (tok_of hO hn I hm) hq h1, h2, h3⟩
theorem fin_iff {S : TS} (I : Inv O [] S) (hq : S.queue = []) (c : Nat) : c ∈ S.told ++ S.win.map (·.c) ↔ ∃ w ∈ O, w.2 = c ∧ ∀ x ∈ O, lessL x.1 w.1 = false := by
  have live0 : ∀ e ∈ S.win, ∀ y ∈ O, Live [] S y → lessL y.1 e.lead = false := fun e he y hy hl => by
    rcases hl with h | h | ⟨e', h, rfl⟩ | h
    · cases h
    · rw [hq] at h; cases h
    · exact I.wi e' h e he
    · exact (I.tA _ h y hy rfl).2.2 e he
  constructor
  · intro h
    rcases List.mem_append.mp h with h | h
    · exact I.tO c h
    · obtain ⟨e, he, rfl⟩ := List.mem_map.mp h
      refine ⟨entW e, I.sw e he, rfl, fun x hx => ?_⟩
      rcases I.dr x hx with hl | ⟨y, hy, h1, h2⟩
      · exact live0 e he x hx hl
      · cases hb : lessL x.1 e.lead with
        | false => exact hb
        | true =>
          have h3 := less_trans (hO y hy).1 (hO x hx).1 (hO _ (I.sw e he)).1 h1 hb
          have h4 := live0 e he y hy h2
          rw [show (entW e).1 = e.lead from rfl, h4] at h3; cases h3
  · rintro ⟨w, hw, rfl, hu⟩
    rcases I.dr w hw with h | ⟨x, hx, h1, _⟩
    · rcases h with h | h | ⟨e, h, rfl⟩ | h
      · cases h
      · rw [hq] at h; cases h
      · exact List.mem_append_right _ (List.mem_map.mpr ⟨e, h, rfl⟩)
      · exact List.mem_append_left _ h
    · rw [hu x hx] at h1; cases h1
end
theorem mem_words : ∀ (l : List (List Nat × Nat)) (k : Nat) (w : Wd), w ∈ wordsFrom l k ↔ ∃ i q, l[i]? = some q ∧ w = (q.1, 97 + (k + i))
  | [], k, w => by simp [wordsFrom]
  | q :: r, k, w => by
    rw [wordsFrom, List.mem_cons, mem_words r (k + 1) w]
    constructor
    · rintro (rfl | ⟨i, q', h, rfl⟩)
      · exact ⟨0, q, rfl, rfl⟩
      · exact ⟨i + 1, q', h, by rw [show k + 1 + i = k + (i + 1) by omega]⟩
    · rintro ⟨i, q', h, rfl⟩
      cases i with
      | zero => cases h; exact .inl rfl
      | succ i => exact .inr ⟨i, q', h, by rw [show k + 1 + i = k + (i + 1) by omega]⟩
theorem words_len : ∀ (l : List (List Nat × Nat)) (k : Nat), (wordsFrom l k).length = l.length
  | [], _ => rfl
  | q :: r, k => by rw [wordsFrom, List.length_cons, List.length_cons, words_len r (k + 1)]
theorem words_nd : ∀ (l : List (List Nat × Nat)) (k : Nat), ((wordsFrom l k).map (·.2)).Nodup
  | [], _ => List.nodup_nil
  | q :: r, k => by
    rw [wordsFrom, List.map_cons, List.nodup_cons]
    refine ⟨fun h => ?_, words_nd r (k + 1)⟩
    obtain ⟨w, hw, e⟩ := List.mem_map.mp h
    obtain ⟨i, q', _, rfl⟩ := (mem_words r (k + 1) w).mp hw
    have e' : 97 + (k + 1 + i) = 97 + k := e
    omega
theorem leads_lead (ns : List Int) : ∀ q ∈ lawLeads ns, LeadOk q.1 := fun q hq => by
  obtain ⟨n, _, rfl⟩ := List.mem_map.mp hq
  refine ⟨fun x hx => ?_, ?_⟩
  · obtain ⟨k, _, rfl⟩ := List.mem_map.mp hx
    split
    · exact .inl rfl
    · exact .inr rfl
  · rw [numLead, List.length_map, List.length_range]
    have : (n % 160).toNat % 5 < 5 := Nat.mod_lt _ (by decide)
    omega
theorem leads_six (ns : List Int) : (lawLeads ns).length ≤ 6 := by rw [lawLeads, List.length_map, List.length_cons, List.length_cons, List.length_cons, List.length_take]; omega
theorem least_iff {qs : List (List Nat × Nat)} (hq : ∀ q ∈ qs, LeadOk q.1) (c : Nat) : c ∈ (leastIx (qs.map fun q => colsOf q.1)).map (fun i => 97 + i) ↔ ∃ w ∈ wordsFrom qs 0, w.2 = c ∧ ∀ x ∈ wordsFrom qs 0, lessL x.1 w.1 = false := by
  have hany : ∀ i q, qs[i]? = some q → ((!((qs.map fun q => colsOf q.1).any fun r => beats r ((qs.map fun q => colsOf q.1).getD i []))) = true ↔ ∀ x ∈ wordsFrom qs 0, lessL x.1 q.1 = false) := fun i q hi => by
    have hg : (qs.map fun q => colsOf q.1).getD i [] = colsOf q.1 := by rw [List.getD_eq_getElem?_getD, List.getElem?_map, hi]; rfl
    have hlq := hq q (List.mem_of_getElem? hi)
    rw [hg, Bool.not_eq_true', List.any_eq_false]
    constructor
    · intro h x hx
      obtain ⟨j, q', hj, rfl⟩ := (mem_words qs 0 x).mp hx
      have hm := List.mem_of_getElem? hj
      have h1 := h (colsOf q'.1) (List.mem_map_of_mem (f := fun q => colsOf q.1) hm)
      rw [less_beats (hq q' hm) hlq]
      simpa using h1
    · intro h r hr
      obtain ⟨q', hm, rfl⟩ := List.mem_map.mp hr
      obtain ⟨j, hj⟩ := List.mem_iff_getElem?.mp hm
      have h1 := h (q'.1, 97 + (0 + j)) ((mem_words qs 0 _).mpr ⟨j, q', hj, rfl⟩)
      rw [less_beats (hq q' hm) hlq] at h1
      simpa using h1
  constructor
  · intro h
    obtain ⟨i, hi, rfl⟩ := List.mem_map.mp h
    obtain ⟨h1, h2⟩ := List.mem_filter.mp hi
    rw [List.mem_range, List.length_map] at h1
    have hi' : qs[i]? = some qs[i] := List.getElem?_eq_getElem h1
    exact ⟨(qs[i].1, 97 + (0 + i)), (mem_words qs 0 _).mpr ⟨i, _, hi', rfl⟩, by dsimp only; omega, (hany i _ hi').mp h2⟩
  · rintro ⟨w, hw, rfl, hu⟩
    obtain ⟨i, q, hi, rfl⟩ := (mem_words qs 0 w).mp hw
    refine List.mem_map.mpr ⟨i, List.mem_filter.mpr ⟨?_, (hany i q hi).mpr hu⟩, by dsimp only; omega⟩
    rw [List.mem_range, List.length_map]; exact (List.getElem?_eq_some_iff.mp hi).1
theorem inv_first {O : List Wd} (hn : (O.map (·.2)).Nodup) (hl : O.length ≤ 6) : Inv O [] ⟨O, 0, O.length, [], []⟩ :=
  ⟨(fun _ h => nomatch h), fun _ h => h, (fun _ h => nomatch h), by simpa using hn, (fun _ h => nomatch h), (fun _ h => nomatch h), fun w h => .inl (.inr (.inl h)), (fun _ h => nomatch h), (fun _ h => nomatch h), (fun _ h => nomatch h), (Nat.zero_add _).symm, by
    show 0 + O.length + 0 + 0 ≤ 6
    omega⟩
theorem leastIx_len (rows : List (List Nat)) : (leastIx rows).length ≤ rows.length := by
  have := List.length_filter_le (fun i => !(rows.any fun r => beats r (rows.getD i []))) (List.range rows.length)
  rwa [List.length_range] at this
theorem law_plain (ns : List Int) (room : Int) (h : 1 ≤ room) : ∃ (toks : List (List Nat)) (rm : Nat) (wds : List Wd) (Fin : TS) (nn : Nat), room = (rm : Int) ∧ Toks (("\n\t\r " : Str)).cps.toList (stOf (textGo (lawLeads ns) 0)).cps.toList toks ∧ (stOf (textGo (lawLeads ns) 0)).cps.toList.length ≤ 1000 ∧ toks.length ≤ 100 ∧
    toks = (wds.map fun q => q.1 ++ [q.2]) ∧ RunsN rm nn ⟨wds, 0, wds.length, [], []⟩ Fin ∧ (leastF (lawLeads ns)).length ≤ 100 ∧
    ∀ ss : List Str, ss.Perm ((Fin.told.map fun c => stOf [c]) ++ (Fin.win.map entP).map fun x => x.1) → sortedS ss = true → ss = leastF (lawLeads ns) := by
  have h6 := leads_six ns
  have hL := leads_lead ns
  have hwl := words_len (lawLeads ns) 0
  have hO : ∀ w ∈ wordsFrom (lawLeads ns) 0, WdOk w := fun w hw => by
    obtain ⟨i, q, hi, rfl⟩ := (mem_words _ 0 w).mp hw
    have hi6 := (List.getElem?_eq_some_iff.mp hi).1
    exact ⟨hL q (List.mem_of_getElem? hi), by dsimp only; omega, by dsimp only; omega⟩
  have hn := words_nd (lawLeads ns) 0
  obtain ⟨nn, Fin, h1, h2, h3⟩ := run_ex hO hn (room := room.toNat) (by omega) _ _ (Nat.le_refl _) (inv_first hn (by omega)) (by
    show 0 + (((wordsFrom (lawLeads ns) 0).length + 0) * 49 + (wordsFrom (lawLeads ns) 0).length * 7 + 0) ≤ 400
    omega)
  have hws : (("\n\t\r " : Str)).cps.toList = wsN := by decide +kernel
  have htl : (stOf (textGo (lawLeads ns) 0)).cps.toList = textGo (lawLeads ns) 0 := rfl
  have hgl : ∀ (l : List (List Nat × Nat)) (k : Nat), (∀ q ∈ l, q.1.length ≤ 4) → (textGo l k).length ≤ 10 * l.length := by
    intro l
    induction l with
    | nil => exact fun _ _ => Nat.le_refl _
    | cons q r ih =>
      intro k h
      have h1 := wordT_len (k := k) (h q (.head _))
      have h2 := ih (k + 1) fun q hq => h q (.tail _ hq)
      rw [textGo, List.length_append, List.length_cons]; omega
  have hlf : (leastF (lawLeads ns)).length ≤ 100 := by
    rw [leastF, List.length_map]
    have := leastIx_len ((lawLeads ns).map fun q => colsOf q.1)
    rw [List.length_map] at this
    omega
  refine ⟨(wordsFrom (lawLeads ns) 0).map fun q => q.1 ++ [q.2], room.toNat, wordsFrom (lawLeads ns) 0, Fin, nn, by omega, by rw [hws, htl]; exact toks_from _ 0 (fun q hq => (hL q hq).1) (by omega), ?_, by rw [List.length_map, hwl]; omega, rfl, h1, hlf, fun ss hp hs => ?_⟩
  · rw [htl]
    have := hgl (lawLeads ns) 0 fun q hq => (hL q hq).2
    omega
  · have e1 : ((Fin.told.map fun c => stOf [c]) ++ (Fin.win.map entP).map fun x => x.1) = (Fin.told ++ Fin.win.map (·.c)).map fun c => stOf [c] := by
      rw [List.map_append, List.map_map, List.map_map]; rfl
    rw [e1] at hp
    have e2 : leastF (lawLeads ns) = ((leastIx ((lawLeads ns).map fun q => colsOf q.1)).map fun i => 97 + i).map fun c => stOf [c] := by
      rw [leastF, List.map_map]; rfl
    rw [e2]
    have hnd := h2.nd
    rw [h3] at hnd
    have hnd2 : (Fin.told ++ Fin.win.map (·.c)).Nodup := (List.perm_append_comm).nodup (by simpa using hnd)
    have hpw : ((leastIx ((lawLeads ns).map fun q => colsOf q.1)).map fun i => 97 + i).Pairwise (· < ·) := by
      rw [List.pairwise_map]
      exact (List.Pairwise.filter _ List.pairwise_lt_range).imp fun h => by omega
    refine names_eq hp hs ?_ (hpw.imp fun h => Nat.le_of_lt h)
    refine (List.perm_ext_iff_of_nodup hnd2 (hpw.imp fun h => Nat.ne_of_lt h)).mpr fun c => ?_
    rw [fin_iff hO hn h2 h3 c, least_iff hL c]
end Mine

theorem Mine.tt_p_law : True := by w_top off; exact trivial
namespace Mine
-- LAW 03: law
theorem hd_id {h : Heap} (x : CodeHd h 301 297) : CodeHd h 301 297 := x
theorem canStrs : ∀ ss : List Str, (∀ x ∈ ss, PyData.strOk x = true) → PyData.canLayAll0 (ss.map PyData.str) = true
  | [], _ => rfl
  | x :: r, h => by
    simp only [List.map_cons, PyData.canLayAll0, PyData.canLay0, h x (.head _), canStrs r fun y hy => h y (.tail _ hy), Bool.and_self]
theorem depthStrs : ∀ ss : List Str, PyData.depthAll (ss.map PyData.str) = 0
  | [] => rfl
  | _ :: r => by simp [PyData.depthAll, PyData.depth, depthStrs r]
theorem noMixStrs : ∀ ss : List Str, SeqAt.noMixAll (ss.map PyData.str) (ss.map PyData.str) = true
  | [] => by simp [SeqAt.noMixAll]
  | _ :: r => by simp [SeqAt.noMixAll, SeqAt.noMix, noMixStrs r]
theorem sameStrs : ∀ ss : List Str, PySem.Spec.sameAll (ss.map PyData.str) (ss.map PyData.str) = true
  | [] => by simp [PySem.Spec.sameAll]
  | _ :: r => by simp [PySem.Spec.sameAll, PySem.Spec.same, sameStrs r]
section
variable {prog : Program} {w : World} {A : Around} {E : Value → Shared → Prop} {s : Shared} {h₀ : Heap} {L : Addr} {m : Str → Option Value} {news : List (Addr × Obj)}
theorem reads_LL {l : Addr} {vs : List Value} {ss : List Str} {k : Nat} (N : News h₀ L s.heap news) (hm : (l, W.listOf vs.toArray k) ∈ news) (hs : StrsAre vs ss) : Reads s.heap (.ref l) (.list (ss.map PyData.str)) [l] :=
  Reads.list (N _ hm).1 rfl rfl (by simpa using PyProof.Rows.StrsAre.reads s.heap hs.toP)
theorem eq_LL {l b : Addr} {vs us : List Value} {ss : List Str} {k k2 : Nat} {Q : Value → Shared → Prop} (N : News h₀ L s.heap news) (m1 : (l, W.listOf vs.toArray k) ∈ news) (m2 : (b, W.listOf us.toArray k2) ∈ news) (hs : StrsAre vs ss) (hu : StrsAre us ss) (hok : ∀ x ∈ ss, PyData.strOk x = true) (hU : A.units + 64 < cLine)
    (h : Q (.bool true) s) : wpAny (model prog w) A (compareOp .Eq (.ref l) (.ref b)) Q E s := by
  have hsh : SeqAt.shaped (.list (ss.map PyData.str)) = true := by
    simp [SeqAt.shaped, PyData.canLay0, PyData.depth, canStrs ss hok, depthStrs]
  refine eq_dataH_same (reads_LL N m1 hs) (reads_LL N m2 hu) hsh hsh hU (by simp only [SeqAt.noMix]; exact noMixStrs ss) ?_
  have e : PySem.Spec.same (.list (ss.map PyData.str)) (.list (ss.map PyData.str)) = true := by simp only [PySem.Spec.same]; exact sameStrs ss
  rw [e]; exact h
end
theorem least_dec : ((List.range 6).all fun i => PyData.strOk (stOf [97 + i])) = true := by decide +kernel
theorem least_str (ns : List Int) : ∀ x ∈ leastF (lawLeads ns), PyData.strOk x = true := fun x hx => by
  obtain ⟨i, hi, rfl⟩ := List.mem_map.mp hx
  have h1 := List.mem_range.mp (List.mem_filter.mp hi).1
  rw [List.length_map] at h1
  have h2 : (lawLeads ns).length ≤ 6 := by rw [lawLeads, List.length_map, List.length_cons, List.length_cons, List.length_cons, List.length_take]; omega
  exact List.all_eq_true.mp least_dec i (List.mem_range.mpr (by omega))
theorem room_ok (z : Int) : 1 ≤ 1 + z.fmod 3 := by have := Int.fmod_nonneg_of_pos z (show (0 : Int) < 3 by decide); omega
section
variable {w : World} {dp un : Nat} {gd : Option (List Code)} {cn : Str} {cs : Scope} {a : Addr} {ccd : Value} {cl : List (Str × Addr)} {outer : List Env} {A₀ : Around} {base h₀ : Heap} {L : Addr} {m mg mb : Str → Option Value} {p : Program} {loose : List Str} {mean : ExcName → Option Value} {s : Shared} {Q E : Value → Shared → Prop} {news : List (Addr × Obj)}
theorem told_law {G : LexG} {ln : Int} {t5 : Tok} {svs : List Value} {k : Nat} {own rest : List (Addr × Obj)} {ns : List Int} {room : Int} {tr : Tok}
  (B : Below A₀ base outer h₀) (F : Fr h₀ L s.heap m) (X : (Mine.hdm.heap_1 w.params).In h₀) (N : News h₀ L s.heap (lexLed w.params G ln t5 svs k ((G.pb, W.listOf #[] 0) :: own ++ rest))) (T₀ : Top p loose mean mg mb h₀) (hk : cs.kind = .function) (hd : dp + 40 < recursionLimit) (hu : un + 100 < cLine)
  (O : LexOk PySem.Challenge.pw_pg0318_03 w (Mine.hdm.heap_1 w.params) p loose mean mg mb G own) (hws : G.ws = "\n\t\r ") (hpb : @LT.lt Nat _ G.sg G.pb ∧ @LT.lt Nat _ G.d G.pb) (hxp : @LT.lt Nat _ G.x G.pb) (hop : ∀ q ∈ own, q.1 ≠ G.pb) (hoff : ∀ q ∈ rest, q.1 ≠ G.d ∧ q.1 ≠ G.sg ∧ q.1 ≠ G.pb)
  (hsv : SgAre svs (stOf (textGo (lawLeads ns) 0)).cps.toList) (hroom : 1 ≤ room)
  (ret : ∀ D l' vs k' t h' tk', Fr h₀ L h' m → News h₀ L h' ((D, { cls := .type "tuple", data := .seq #[.ref l', .str (stOf []) t] }) :: (l', W.listOf vs.toArray k') :: rest) → StrsAre vs (leastF (lawLeads ns)) → (leastF (lawLeads ns)).length ≤ 100 → Q (.ref D) {s with heap := h', toks := tk'}) :
  wpAny (model PySem.Challenge.pw_pg0318_03 w) (ktrTop dp un gd cn cs L a ccd cl outer) (call (.ref 309) [.ref G.x, .int room tr]) Q E s := by
  obtain ⟨toks, rm, wds, Fin, nn, e1, hT, hl, e2, hwd, hrun, hz, hfin⟩ := law_plain ns room hroom
  rw [← hws] at hT
  refine told_call (ln := ln) (t5 := t5) (k := k) (pk := 0) (rm := rm) (wds := wds) (Fin := Fin) (nn := nn) B F X N T₀ hk hd hu O hpb hxp hop (fun q hq => ?_) hsv hl hT e2 e1 hwd hrun fun D l' vs k' ss t h' tk' F' K' N' S' P' O' => ?_
  · simp only [List.mem_cons, List.cons_append, List.mem_append] at hq ⊢
    rcases hq with h | h | h | h | h | h | h
    · exact .inl h
    · exact .inr (.inl h)
    · exact .inr (.inr (.inl h))
    · exact .inr (.inr (.inr (.inl h)))
    · exact .inr (.inr (.inr (.inr (.inl h))))
    · exact .inr (.inr (.inr (.inr (.inr (.inl h)))))
    · exact .inr (.inr (.inr (.inr (.inr (.inr (.inl h))))))
  · have e := hfin ss P' O'
    rw [e] at S'
    refine ret D l' vs k' t h' tk' F' (List.forall_mem_cons.mpr ⟨N' _ (.head _), List.forall_mem_cons.mpr ⟨N' _ (.tail _ (.head _)), ?_⟩⟩) S' hz
    have Nr := News.sub N (news' := rest) fun q hq => .tail _ (.tail _ (.tail _ (.tail _ (.tail _ (.tail _ (List.mem_append_right _ hq))))))
    exact News.off Nr K' fun q hq z => by
      obtain ⟨o1, o2, o3⟩ := hoff q hq
      simp only [List.mem_cons, List.not_mem_nil, or_false] at z
      rcases z with z | z | z
      · exact o1 z
      · exact o2 z
      · exact o3 z
end
section
variable {w : World} {dp un : Nat} {gd : Option (List Code)} {cn : Str} {cs : Scope} {a : Addr} {ccd : Value} {cl : List (Str × Addr)} {outer : List Env} {A₀ : Around} {base h₀ : Heap} {L : Addr} {m mg mb : Str → Option Value} {p : Program} {loose : List Str} {mean : ExcName → Option Value} {s : Shared} {Q E : Value → Shared → Prop} {news : List (Addr × Obj)}
theorem reader_law {xt : Str} {tx : Tok} {ld : Addr} {lvs : List Value} {kl : Nat} {tl : List (Addr × Obj)} {qs : List (List Nat × Nat)} (B : Below A₀ base outer h₀) (F : Fr h₀ L s.heap m) (X : (Mine.hdm.heap_1 w.params).In h₀) (N : News h₀ L s.heap news) (T : Top p loose mean mg mb h₀) (hk : cs.kind = .function) (hd : dp + 40 < recursionLimit) (hu : un + 100 < cLine)
  (hC : CodeHd h₀ 301 297) (_hin : LeadsIn tl lvs qs) (m1 : (ld, W.listOf lvs.toArray kl) ∈ news) (m2 : ∀ q ∈ tl, q ∈ news) (m3 : ((297 : Addr), tabObj #[]) ∈ news) (hoff : ∀ p ∈ [((297 : Addr), tabObj #[])], ∀ q ∈ (ld, W.listOf lvs.toArray kl) :: tl, p.1 ≠ q.1) (hz : xt.length ≤ 1000)
  (ret : ∀ (G : LexG) ln t5 svs k own ps h' tk', Fr h₀ L h' m → News h₀ L h' (lexLed w.params G ln t5 svs k ((G.pb, W.listOf #[] 0) :: own ++ ((297, tabObj ps) :: (ld, W.listOf lvs.toArray kl) :: tl))) → SgAre svs xt.cps.toList → LexOk PySem.Challenge.pw_pg0318_03 w (Mine.hdm.heap_1 w.params) p loose mean mg mb G own → G.ws = "\n\t\r " → (@LT.lt Nat _ G.sg G.pb ∧ @LT.lt Nat _ G.d G.pb) → @LT.lt Nat _ G.x G.pb → (∀ q ∈ own, q.1 ≠ G.pb) → (∀ q ∈ (297, tabObj ps) :: (ld, W.listOf lvs.toArray kl) :: tl, q.1 ≠ G.d ∧ q.1 ≠ G.sg ∧ q.1 ≠ G.pb) → Q (.ref G.x) {s with heap := h', toks := tk'}) :
  wpAny (model PySem.Challenge.pw_pg0318_03 w) (ktrTop dp un gd cn cs L a ccd cl outer) (call (.ref 302) [.str xt tx]) Q E s :=
  reader_call B F X (News.sub N (sub_cons m3 (sub_cons m1 m2))) T hk hd hu hC (fun q hq e => hoff _ (.head _) q hq e.symm) hz ret
end
theorem leads_ok (ns : List Int) : (lawLeads ns).length ≤ 6 ∧ (∀ q ∈ lawLeads ns, q.1.length ≤ 4) := by
  constructor
  · rw [lawLeads, List.length_map, List.length_cons, List.length_cons, List.length_cons, List.length_take]; omega
  · intro q hq
    obtain ⟨n, _, rfl⟩ := List.mem_map.mp hq
    rw [numLead, List.length_map, List.length_range]
    have : (n % 160).toNat % 5 < 5 := Nat.mod_lt _ (by decide)
    omega
theorem textGo_len : ∀ (l : List (List Nat × Nat)) (k : Nat), (∀ q ∈ l, q.1.length ≤ 4) → (textGo l k).length ≤ 10 * l.length
  | [], _, _ => Nat.le_refl _
  | q :: r, k, h => by
    have h1 := wordT_len (k := k) (h q (.head _))
    have h2 := textGo_len r (k + 1) fun q hq => h q (.tail _ hq)
    rw [textGo, List.length_append, List.length_cons]; omega
theorem text_ok (ns : List Int) : (stOf (textGo (lawLeads ns) 0)).length ≤ 1000 := by
  have h := leads_ok ns
  have := textGo_len (lawLeads ns) 0 h.2
  rw [st_len]; omega
local macro_rules | `(tactic| walk_at "call ref") => `(tactic| (k_here; (with_reducible show wpAny _ _ (call (Value.ref 290) [_]) _ _ _); k_dflt (refine' Mine.leads_call ?k1 ?k2 ?k3 ?k4 ?k5 ?kK ?kd ?kS ?kI ?kz ?_; (case k1 => k_asm); (case k2 => k_asm); (case k3 => k_asm); (case k4 => k_asm); (case k5 => k_asm); (case kK => first | exact rfl | assumption); (case kS => assumption); (case kI => assumption); (case kz => omega); (case kd => ktr_room)); intro ld9 lvs9 kl9 tl9 h9 tk9' F9 N9 L9 o9; (try simp only [List.cons_append, List.nil_append] at N9); (try dsimp only); (try k_fold)))
local macro_rules | `(tactic| walk_at "α") => `(tactic| (refine List.forall_mem_cons.mpr ⟨by k_mem, fun q hq => ?_⟩; (repeat (first | exact hq | refine List.Mem.tail _ ?_))))
local macro_rules | `(tactic| walk_at "β") => `(tactic| exact (Mine.leads_ok _).1)
local macro_rules | `(tactic| walk_at "γ") => `(tactic| exact (Mine.leads_ok _).2)
local macro_rules | `(tactic| walk_at "call ref") => Mine.ln `Mine.text_call 11 0 false "AaBaCaDaEaFkIsHαJβKγGr" none 295 1 "Iabcde D F"
local macro_rules | `(tactic| walk_at "δ") => `(tactic| (intro q hq; (repeat (first | exact hq | refine List.Mem.tail _ ?_))))
local macro_rules | `(tactic| walk_at "ε") => `(tactic| exact Mine.text_ok _)
local macro_rules | `(tactic| walk_at "call ref") => Mine.ln `Mine.reader_law 15 0 false "AaBaCaDaEaFkIsJsKmLδMmNsOεGrHu" none 302 1 "Iabcdefghijklmnopqr D F"
local macro_rules | `(tactic| walk_at "ζ") => `(tactic| exact Mine.room_ok _)
local macro_rules | `(tactic| walk_at "call ref") => Mine.ln `Mine.told_law 16 0 false "AaBaCaDaEaFkIsJsKsLsMsNsOsPζGrHu" none 309 2 "Iabcdefghijk D F"
local macro_rules | `(tactic| walk_at "call ref") => Mine.ln `Mine.least_call 11 0 false "AaBaCaDaEaFkHsJsIαKβGr" none 321 1 "Iabcdefgh D F"
local macro_rules | `(tactic| walk_at "η") => `(tactic| exact Mine.least_str _)
local macro_rules | `(tactic| walk_at "θ") => `(tactic| units_room)
local macro_rules | `(tactic| walk_at "compareOp Eq ref ref") => do
  let g := (some (← `(term| wpAny _ _ (compareOp CmpOp.Eq (Value.ref _) (Value.ref _)) _ _ _)))
  Mine.ln `Mine.eq_LL 7 0 true "AaBmCmDsEsFηGθ" g 0 0 ""
theorem top_all : PySem.Challenge.rw_pg0318_03.Holds := hdm ⟨Mine.left_km "special-get-raises" Mine.chk_f Mine.chk_t, by
  k_go0
  dsimp only
  rename CodeHd _ _ _ => hC9
  replace hC9 := Mine.hd_id hC9
  show wpAny (model PySem.Challenge.pw_pg0318_03 _) (ktrTop _ _ _ _ _ _ _ _ _ _) _ _ _ _
  k_steps⟩
end Mine

theorem PySem.Challenge.cw_pg0318_03_holds : PySem.Challenge.rw_pg0318_03.Holds := by
  exact Mine.top_all

