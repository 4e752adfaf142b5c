import PyProof.Rows.All
import Wide.All
import OpenK.AllK
import Wide.FinOn
import Lean
import PySem.Challenge.RW_ko0037_07
open PySem PySem.W PyProof.Rows
set_option Elab.async false
set_option maxRecDepth 100000
lay_quick PySem.W.openEnds
namespace Mine
noncomputable def view : Program := { PySem.Challenge.rw_ko0037_07.row.prog with main := { PySem.Challenge.rw_ko0037_07.row.prog.main with body := (PySem.Challenge.rw_ko0037_07.row.prog.main.body.eraseIdx 8).eraseIdx 2 } }
set_option hygiene false in
local macro_rules | `(tactic| o_head $H) => `(tactic| (
  refine holds_open (q := Mine.view) (loose := [PySem.Str.ofString "IPV4_RE", PySem.Str.ofString "DefaultCookiePolicy"]) (Xt := fun s => xlAt Mine.view [] s && recOk (RowW.records (OpenRow.toRowW PySem.Challenge.rw_ko0037_07.row)) s) (XP := XL Mine.view []) (Yf := Hook.obs $H) (Ya := Hook.val $H) (YP := Hook.says $H) (N := 3514) ?hl (Hook.of $H) (Hook.keeps $H) (fun s e => xl_of s (Bool.and_eq_true_iff.mp e).1) XL.keeps (by rfl) (by rfl) (by rfl) (fun s e => recFacts_of (Bool.and_eq_true_iff.mp e).2) (by rfl) (by first | assumption | decide +kernel) (by decide +kernel) ⟨rfl, rfl, rfl, rfl, rfl, by decide +kernel⟩ ?hw ?hc
  case hl => (unfold LeftO; intro w; rw [PySem.W.Fast.te15552708684749139287, PySem.W.Fast.te14364793385576792824, PySem.W.Fast.te4187177175401517315, PySem.W.Fast.te5923862056798008813, PySem.W.Fast.te2368527892694137696, PySem.W.Fast.te18208638346392082812]; kernel_rfl)))
set_option maxHeartbeats 8000000 in
open_top hd for PySem.Challenge.rw_ko0037_07
end Mine
section
open PySem PySem.W PyProof.Rows PySem.Calls
namespace Mine
abbrev Lab := List Str
def W3 : List Str := [Str.ofString "a7", Str.ofString "Ba7", Str.ofString "77"]
def dot : Str := Str.ofString "."
def nilT : Str := Str.ofString ""
def pick (n : Int) : Str := W3.getD (Int.fmod n 3).toNat nilT
def picks : Nat → Int → Lab
  | 0, _ => []
  | k + 1, n => pick n :: picks k (Int.fdiv n 3)
def headOf (n : Int) : Lab := if Int.fmod n 2 = 1 then [nilT] else []
def sizeOf (n : Int) : Nat := (1 + Int.fmod (Int.fdiv n 2) 3).toNat
def labelsOf (n : Int) : Lab := headOf n ++ picks (sizeOf n) (Int.fdiv (Int.fdiv n 2) 3)
def tails : Nat → List Lab
  | 0 => [[]]
  | k + 1 => (tails k).flatMap fun t => W3.map fun x => x :: t
def allL : List Lab := [[], [nilT]].flatMap fun h => (tails 1 ++ tails 2 ++ tails 3).map fun t => h ++ t
def join (L : Lab) : Str := Txt.join dot L
def dom (L : Lab) : Str := Txt.swapcase (join L)
def low (L : Lab) : Str := Txt.lower (join L)
def numeric (L : Lab) : Bool := decide (1 < L.length) && (L.getLast? == some (Str.ofString "77"))
def lawMatch (H D : Lab) : Bool :=
  if numeric H || numeric D || (D.headD nilT != nilT) then H == D
  else decide ((D.drop 1).length < H.length) && (H.drop (H.length - (D.drop 1).length) == D.drop 1)
def loC (c : Nat) : Nat := if c = 66 then 98 else if c = 65 then 97 else c
def swC (c : Nat) : Nat := if c = 66 then 98 else if c = 65 then 97 else if c = 98 then 66 else if c = 97 then 65 else c
def SG : List Nat := [46, 97, 98, 66, 65, 55]
theorem sg_low : ∀ c ∈ SG, Unicode.lowerOf c = [loC c] := by decide +kernel
theorem sg_up : ∀ c ∈ SG, (if Unicode.isUpper c then Unicode.lowerOf c else if Unicode.isLower c then Unicode.upperOf c else [c]) = [swC c] := by decide +kernel
theorem sg_sw : ∀ c ∈ SG, swC c ∈ SG ∧ loC (swC c) = loC c ∧ c ≠ 0x3A3 := by decide +kernel
theorem placed_map (x : Str) (f : Nat → Nat → List Nat) (g : Nat → Nat) (h : ∀ i c, x.cps[i]? = some c → f i c = [g c]) : placed x f = x.cps.map g := by
  unfold placed
  have e : (x.cps.mapIdx fun i c => (f i c).toArray) = x.cps.map fun c => #[g c] := by
    apply Array.ext
    · simp
    · intro i h1 h2
      simp only [Array.getElem_mapIdx, Array.getElem_map]
      rw [h i _ (by simp)]
  rw [e]
  apply Array.ext'
  rw [Array.toList_flatten]
  simp only [Array.toList_map, List.map_map]
  generalize x.cps.toList = l
  induction l with
  | nil => rfl
  | cons c r ih => simp only [List.map_cons, List.flatten_cons, ih, Function.comp]; rfl
theorem lower_map (x : Str) (h : ∀ c ∈ x.cps, c ∈ SG) : Txt.lower x = ⟨x.cps.map loC⟩ := by
  unfold Txt.lower
  rw [placed_map x _ loC]
  intro i c hc
  have hm := h c (Array.mem_of_getElem? hc)
  unfold Unicode.lowerAt
  rw [hc]
  dsimp only
  have h3 : (c == 0x3A3) = false := by simpa using (sg_sw c hm).2.2
  rw [h3, Bool.false_and, if_neg Bool.false_ne_true]
  exact sg_low c hm
theorem swap_map (x : Str) (h : ∀ c ∈ x.cps, c ∈ SG) : Txt.swapcase x = ⟨x.cps.map swC⟩ := by
  unfold Txt.swapcase
  rw [placed_map x _ swC]
  intro i c hc
  have hm := h c (Array.mem_of_getElem? hc)
  have e : Unicode.lowerAt x.cps i = Unicode.lowerOf c := by
    unfold Unicode.lowerAt
    rw [hc]
    dsimp only
    have h3 : (c == 0x3A3) = false := by simpa using (sg_sw c hm).2.2
    rw [h3, Bool.false_and, if_neg Bool.false_ne_true]
  rw [e]
  exact sg_up c hm
def signs (L : Lab) : List Nat := (join L).cps.toList
theorem join_sg : ∀ L ∈ allL, ∀ c ∈ signs L, c ∈ SG := by decide +kernel
theorem join_sg' {L : Lab} (h : L ∈ allL) : ∀ c ∈ (join L).cps, c ∈ SG := fun c hc => join_sg L h c (by unfold signs; exact Array.mem_toList_iff.mpr hc)
def lowL (L : Lab) : Str := ⟨(join L).cps.map loC⟩
theorem low_is {L : Lab} (h : L ∈ allL) : low L = lowL L := lower_map _ (join_sg' h)
theorem low_dom {L : Lab} (h : L ∈ allL) : Txt.lower (dom L) = low L := by
  have hj := join_sg' h
  have hd : dom L = ⟨(join L).cps.map swC⟩ := swap_map _ hj
  rw [hd, lower_map _ ?_, low, lower_map _ hj]
  · congr 1
    rw [Array.map_map]
    apply Array.map_congr_left
    intro c hc
    exact (sg_sw c (hj c hc)).2.1
  · intro c hc
    obtain ⟨b, hb, rfl⟩ := Array.mem_map.mp hc
    exact (sg_sw b (hj b hb)).1
end Mine
end
section
open PySem PySem.W PyProof.Rows PySem.Calls
namespace Mine
def udmB (a b : Str) (na nb : Bool) : Bool :=
  if na || nb then a == b else if Txt.startswith b dot && Txt.endswith a b then true else (!(Txt.startswith b dot) && (a == b))
def rowsL : List (Lab × Str × Bool) := allL.map fun L => (L, lowL L, numeric L)
theorem udm_all : (rowsL.all fun p => rowsL.all fun q => udmB p.2.1 q.2.1 p.2.2 q.2.2 == lawMatch p.1 q.1) = true := by decide +kernel
theorem udm_eq {H D : Lab} (hH : H ∈ allL) (hD : D ∈ allL) : udmB (low H) (low D) (numeric H) (numeric D) = lawMatch H D := by
  have h1 := List.all_eq_true.mp udm_all (H, lowL H, numeric H) (List.mem_map.mpr ⟨H, hH, rfl⟩)
  have h2 := List.all_eq_true.mp h1 (D, lowL D, numeric D) (List.mem_map.mpr ⟨D, hD, rfl⟩)
  rw [low_is hH, low_is hD]
  exact beq_iff_eq.mp h2
end Mine
end
section
open PySem PySem.W PyProof.Rows PySem.Calls
namespace Mine
noncomputable abbrev PR : Program := PySem.Challenge.rw_ko0037_07.row.prog
noncomputable abbrev LO : List Str := looseW Mine.view [Str.ofString "IPV4_RE", Str.ofString "DefaultCookiePolicy"]
/-- the ground: the written part stands, the top's facts stand -/
structure Gd (w : World) (mg mb : Str → Option Value) (h : Heap) : Prop where
  X : (hd.heap_39 w.params).In h
  T : TopRead Mine.view LO mg mb h
abbrev Kp (h h' : Heap) : Prop := ∀ b o, h.get? b = some o → h'.get? b = some o
theorem Kp.rfl {h : Heap} : Kp h h := fun _ _ e => e
theorem Kp.trans {h h' h'' : Heap} (a : Kp h h') (b : Kp h' h'') : Kp h h'' := fun x o e => b x o (a x o e)
theorem Gd.keeps {w : World} {mg mb h h'} (G : Gd w mg mb h) (k : Kp h h') : Gd w mg mb h' := ⟨G.X.keeps k, G.T.keeps k⟩
/-- room for n more frames -/
structure Room (n : Nat) (A : Around) : Prop where
  d : A.depth + 3 * n < recursionLimit
  u : A.units + 20 * n < cLine
  hh : A.handled = none
theorem Room.deeper {n : Nat} {A : Around} {env : Env} (r : Room (n + 1) A) : Room n (A.deeper env) := by
  refine ⟨?_, ?_, r.hh⟩
  · have := r.d; show A.depth + 1 + 3 * n < recursionLimit; omega
  · have := r.u; show A.units + 3 + 20 * n < cLine; omega
theorem Room.deeper' {n : Nat} {A : Around} {env : Env} (r : Room (n + 1) A) : Room n (A.deeper env) := r.deeper
theorem Room.less {n m : Nat} {A : Around} (r : Room n A) (h : m ≤ n) : Room m A :=
  ⟨by have := r.d; omega, by have := r.u; omega, r.hh⟩
theorem Room.dd {n : Nat} {A : Around} (r : Room n A) : A.depth < recursionLimit := by have := r.d; omega
theorem Room.uu {n : Nat} {A : Around} (r : Room n A) : A.units < cLine := by have := r.u; omega
theorem entry {w : World} {mg mb} {A : Around} {s : Shared} {Q : Value → Shared → Prop} {E : Value → Shared → Prop} {f : Addr}
    {oc : Value} {od : Option Addr} {osl : Array (Option Value)} {name qual : Str} {params : Arguments} {body : List Stmt} {scope : Scope} {dV kV doc pm cdv ct : Value} {an : Option Addr} {pos : List Value} {kw : List (Str × Value)} {binds : List (Str × Value)}
    (G : Gd w mg mb s.heap) (hA : A.depth < recursionLimit)
    (ho : (hd.heap_39 w.params).lookup f = some ⟨oc, od, .func (fnOf name qual params body scope dV kV doc pm an cdv ct), osl⟩)
    (hcd : codeIn (hd.heap_39 w.params) cdv qual = true)
    (hbind : BindsTo s (fnOf name qual params body scope dV kV doc pm an cdv ct) ⟨pos, kw⟩ binds)
    (hcell : ∀ x ∈ scope.names, x.2 ≠ .cell) (hloc : ∀ x ∈ binds, scope.names.lookup x.1 = some .local)
    (h : ∀ h₁, Fr s.heap s.heap.objs.size h₁ (fun x => binds.reverse.lookup x) →
      wpAny (model PR w) (A.deeper (envOf qual scope s.heap.objs.size f cdv)) (execs body (envOf qual scope s.heap.objs.size f cdv))
        (fun fl s' => Q (match fl with | .ret v => v | _ => .none) s') (fun _ _ => False) { s with heap := h₁, toks := s.toks + binds.length })
    (hco : scope.isCoroutine = false := by rfl) (hgen : scope.isGenerator = false := by rfl) (hk : scope.kind = .function := by rfl) :
    wpAny (model PR w) A (call (.ref f) pos kw) Q E s := by
  refine wpAny_call ?_
  refine codeAny_call_def (fd := fnOf name qual params body scope dV kV doc pm an cdv ct) (body := body) (binds := binds) hA (G.X _ _ ho) rfl G.T.nolimit (codeRec_of G.X hcd) rfl hbind hcell hloc (fun h₁ hns hk₁ => ?_) hco hgen hk
  exact wpAny_mono (h h₁ ⟨hns, hk₁, Nat.le_refl _⟩) (fun _ _ x => x) (fun _ _ x => x.elim)
section
variable (w : World)
theorem nsRE : nsIn (hd.heap_39 w.params) mainGlobals (Str.ofString "IPV4_RE") = some (some (.ref 43)) := by k_is
theorem nsHDN : nsIn (hd.heap_39 w.params) mainGlobals (Str.ofString "liberal_is_HDN") = some (some (.ref 50)) := by k_is
theorem nsUDM : nsIn (hd.heap_39 w.params) mainGlobals (Str.ofString "user_domain_match") = some (some (.ref 57)) := by k_is
theorem nsPol : nsIn (hd.heap_39 w.params) mainGlobals (Str.ofString "DefaultCookiePolicy") = some (some (.ref 272)) := by k_is
theorem nsLabels : nsIn (hd.heap_39 w.params) mainGlobals (Str.ofString "_law_labels") = some (some (.ref 281)) := by k_is
theorem nsTexts : nsIn (hd.heap_39 w.params) mainGlobals (Str.ofString "_law_texts") = some (some (.ref 286)) := by k_is
theorem nsMatch : nsIn (hd.heap_39 w.params) mainGlobals (Str.ofString "_law_match") = some (some (.ref 291)) := by k_is
theorem nsHolds : nsIn (hd.heap_39 w.params) mainGlobals (Str.ofString "_law_holds") = some (some (.ref 296)) := by k_is
theorem nsLen : nsIn (hd.heap_39 w.params) mainGlobals (Str.ofString "len") = some none := by k_is
theorem nsTuple : nsIn (hd.heap_39 w.params) mainGlobals (Str.ofString "tuple") = some none := by k_is
theorem nsList : nsIn (hd.heap_39 w.params) mainGlobals (Str.ofString "list") = some none := by k_is
theorem nsRange : nsIn (hd.heap_39 w.params) mainGlobals (Str.ofString "range") = some none := by k_is
theorem nsIsinst : nsIn (hd.heap_39 w.params) mainGlobals (Str.ofString "isinstance") = some none := by k_is
theorem nsBool : nsIn (hd.heap_39 w.params) mainGlobals (Str.ofString "bool") = some none := by k_is
theorem kp50 : keepIn (hd.heap_39 w.params) (.ref 50) = true := by k_is
theorem kp57 : keepIn (hd.heap_39 w.params) (.ref 57) = true := by k_is
theorem kp272 : keepIn (hd.heap_39 w.params) (.ref 272) = true := by k_is
theorem kp281 : keepIn (hd.heap_39 w.params) (.ref 281) = true := by k_is
theorem kp286 : keepIn (hd.heap_39 w.params) (.ref 286) = true := by k_is
theorem kp291 : keepIn (hd.heap_39 w.params) (.ref 291) = true := by k_is
theorem kp296 : keepIn (hd.heap_39 w.params) (.ref 296) = true := by k_is
end
end Mine
end
section
open PySem PySem.W PyProof.Rows PySem.Calls
namespace Mine
/-! the pattern's search -/
theorem slot_search : Slot "re.Pattern" "search" "re.Pattern.search" :=
  .of (owner := "re.Pattern") (n := "search") (by rw [typeLookup_type, builtinLookup_eq_fast]; kernel_rfl) (by decide +kernel) (by decide +kernel) (by decide +kernel)
    (by first | exact .inl (by decide +kernel) | exact .inr (by decide +kernel)) (by rw [isSubtype_type]; kernel_rfl)
theorem entry_search : entryFor table "re.Pattern.search" = some Builtin.«re.Pattern.search» := entryFor_of_tree (by kernel_rfl)
theorem args_search (a b : Value) : argsOk "re.Pattern.search" ⟨[a, b], []⟩ := by unfold argsOk; kernel_rfl
theorem type_search : typeOf (.builtin "re.Pattern.search") = pure (.type "method_descriptor") := by show builtinType _ = _; rw [builtinType_eq_fast]; kernel_rfl
theorem plain_pattern : PlainAttrs "re.Pattern" := ⟨⟨"object.__getattribute__", by rw [typeLookup_type, builtinLookup_eq_fast]; kernel_rfl, by decide +kernel⟩, by rw [typeLookup_type, builtinLookup_eq_fast]; kernel_rfl⟩
end Mine
end
section
open PySem PySem.W PyProof.Rows PySem.Calls
open PySem.Builtin PySem.Builtin.Re
namespace Mine
def driveTo : Nat → Sre.M → Option Sre.M
  | 0, _ => none
  | k + 1, m => if (m.runFor reTurnSteps).outcome.isSome then some (m.runFor reTurnSteps) else driveTo k (m.runFor reTurnSteps)
theorem drive_ok {M : Model} {A : Around} {E : Value → Shared → Prop} {s : Shared} {Q : Sre.M → Shared → Prop} :
    ∀ (k turns : Nat) (m m' : Sre.M), driveTo k m = some m' → k ≤ turns → Q m' s → wpAny M A (reDrive turns m) Q E s
  | 0, _, _, _, h, _, _ => by cases h
  | k + 1, 0, _, _, _, hk, _ => by omega
  | k + 1, turns + 1, m, m', h, hk, hq => by
    unfold driveTo at h
    unfold reDrive
    dsimp only
    split at h
    · rename_i ho
      cases h
      rw [if_pos ho]
      exact wpAny_pure hq
    · rename_i ho
      rw [if_neg ho]
      exact wpAny_bind (wpAny_rule (drive_ok k turns _ m' h (by omega) hq))
theorem runToEnd_ok {M : Model} {A : Around} {E : Value → Shared → Prop} {s : Shared} {Q : Option Sre.M → Shared → Prop} {k : Nat} {m m' : Sre.M}
    (h : driveTo k m = some m') (hk : k ≤ 2 ^ 64) (hq : match m'.outcome with | some .matched => Q (some m') s | some .failed => Q none s | _ => False) : wpAny M A (reRunToEnd m) Q E s := by
  unfold reRunToEnd
  refine wpAny_bind (drive_ok k _ m m' h hk ?_)
  refine wpAny_bind (wpAny_forIn_list _ (fun _ _ s' => s' = s) _ ?_ ?_ _ _ rfl)
  · rintro x rest b s' rfl
    split
    · exact wpAny_bind (wpAny_rule (wpAny_pure rfl))
    · exact wpAny_pure rfl
  · rintro b s' rfl
    cases ho : m'.outcome with
    | none => rw [ho] at hq; exact hq.elim
    | some o =>
      rw [ho] at hq
      cases o with
      | matched => exact wpAny_pure hq
      | failed => exact wpAny_pure hq
      | stuck why => exact hq.elim
def codeA : Array Nat := #[14, 8, 1, 2, 4294967295, 1, 1, 46, 0, 16, 46, 24, 9, 1, 4294967295, 13, 4, 8, 0, 0, 1, 6, 5, 1]
def found (t : Str) : Option Bool := (driveTo 400 (Sre.forSearch codeA t.cps 0 0 t.cps.size false)).bind fun m => match m.outcome with
  | some .matched => some true
  | some .failed => some false
  | _ => none
theorem found_all : (rowsL.all fun p => found p.2.1 == some p.2.2) = true := by decide +kernel
theorem found_low {L : Lab} (h : L ∈ allL) : found (low L) = some (numeric L) := by
  have h1 := List.all_eq_true.mp found_all (L, lowL L, numeric L) (List.mem_map.mpr ⟨L, h, rfl⟩)
  rw [low_is h]
  exact beq_iff_eq.mp h1
end Mine
end
section
open PySem PySem.W PyProof.Rows PySem.Calls
open PySem.Builtin PySem.Builtin.Re
namespace Mine
theorem named_search (x : Value) : reNamed "re.Pattern.search" "search" ["string", "pos", "endpos"] 1 [x] [] = pure [some x, none, none] := by rfl
def IsMatch (h : Heap) (a : Addr) : Prop := ∃ o, h.get? a = some o ∧ o.cls = .type "re.Match"
def patItems : Array Value := #[Value.int 14 0, Value.int 8 0, Value.int 1 0, Value.int 2 0, Value.int 4294967295 0, Value.int 1 0,
        Value.int 1 0, Value.int 46 0, Value.int 0 0, Value.int 16 0, Value.int 46 0, Value.int 24 0, Value.int 9 0,
        Value.int 1 0, Value.int 4294967295 0, Value.int 13 0, Value.int 4 0, Value.int 8 0, Value.int 0 0,
        Value.int 0 0, Value.int 1 0, Value.int 6 0, Value.int 5 0, Value.int 1 0]
def patFields : Array Value := #[Value.str (Str.ofString "\\.\\d+$") 292, Value.int 256 319, Value.int 0 0, Value.none, Value.none, Value.ref 42, Value.int 0 0]
theorem pat43 {w : World} {mg mb h} (G : Gd w mg mb h) : h.get? 43 = some { cls := .type "re.Pattern", data := .fields patFields } := G.X _ _ (by k_is)
theorem pat42 {w : World} {mg mb h} (G : Gd w mg mb h) : h.get? 42 = some { cls := .type "tuple", data := .seq patItems } := G.X _ _ (by k_is)
theorem search_call {w : World} {mg mb} {A : Around} {s : Shared} {Q : Value → Shared → Prop} {E : Value → Shared → Prop} {t : Str} {tk : Tok} {b : Bool}
    (G : Gd w mg mb s.heap) (hb : found t = some b) (hz : t.cps.size < 2 ^ 60)
    (hN : b = false → Q .none s) (hM : b = true → ∀ a h', Kp s.heap h' → IsMatch h' a → Q (.ref a) { s with heap := h' }) :
    wpAny (model PR w) A (call (.builtin "re.Pattern.search") [.ref 43, .str t tk]) Q E s := by
  have h43 := pat43 G
  have h42 := pat42 G
  refine wpAny_call_entry slot_search (self := .ref 43) (rest := [.str t tk]) ⟨_, h43, rfl⟩ entry_search ?_ (args_search _ _)
  unfold found at hb
  cases hd : driveTo 400 (Sre.forSearch codeA t.cps 0 0 t.cps.size false) with
  | none => rw [hd] at hb; cases hb
  | some m' =>
  rw [hd] at hb
  unfold Builtin.«re.Pattern.search»
  refine wpAny_bind ?_
  unfold reTarget
  simp only [named_search, pure_bind]
  refine wpAny_bind (wpAny_fieldsOf h43 rfl ?_)
  refine wpAny_bind (m := reTextOf (.str t tk)) (wpAny_of_eq (a := (t.cps, 0)) rfl ?_)
  dsimp only
  rw [if_neg (show ¬ ((reRawNat (patFields.getD 6 Value.none) == 0 && (0 : Nat) == 1) = true) by decide), if_neg (show ¬ ((reRawNat (patFields.getD 6 Value.none) == 1 && (0 : Nat) == 0) = true) by decide)]
  refine wpAny_bind (m := reNoCollectionInside (.str t tk) 0) (wpAny_of_eq (a := ()) rfl ?_)
  refine wpAny_bind (m := reRawItems (patFields.getD 5 Value.none)) ?_
  unfold reRawItems
  refine wpAny_bind (m := seqItems? (.ref 42)) (wpAny_seqItems h42 rfl (wpAny_pure ?_))
  refine wpAny_pure ?_
  have ec : Array.map (fun x => x.toNat) (Array.map reRawOf ((some patItems).getD #[])) = codeA := by decide +kernel
  have ep : Min.min (Int.toNat 0) t.cps.size = 0 := by simp
  have el : Min.min ((2 : Int) ^ 63 - 1).toNat t.cps.size = t.cps.size := by
    have : ((2 : Int) ^ 63 - 1).toNat = 9223372036854775807 := by decide
    rw [this]; omega
  dsimp only
  rw [ec, ep, el]
  have eg : reRawNat (patFields.getD 2 Value.none) = 0 := rfl
  rw [eg]
  unfold reAnswer
  refine wpAny_bind (runToEnd_ok hd (by decide) ?_)
  cases ho : m'.outcome with
  | none => simp [ho] at hb
  | some o =>
    cases o with
    | stuck why => simp [ho] at hb
    | failed =>
      have : b = false := by simpa [ho] using hb.symm
      exact wpAny_pure ⟨_, rfl, hN this⟩
    | matched =>
      have : b = true := by simpa [ho] using hb.symm
      dsimp only
      refine wpAny_bind ?_
      unfold reNewMatch
      simp only [List.range_zero, List.flatMap_nil, List.any_nil, Bool.false_eq_true, if_false]
      refine wpAny_bind (m := newTuple _) (wpAny_newObj_type ?_)
      refine wpAny_newObj_type (wpAny_pure ⟨_, rfl, hM this _ _ (fun b o e => Heap.get?_push_of_some _ (Heap.get?_push_of_some _ e)) ⟨_, Heap.get?_push_size _ rfl, rfl⟩⟩)
end Mine
end
section
open PySem PySem.W PyProof.Rows PySem.Calls
namespace Mine
theorem match_nobool : typeLookup (.type "re.Match") "__bool__" = pure none := by rw [typeLookup_type, builtinLookup_eq_fast]; kernel_rfl
theorem match_nolen : typeLookup (.type "re.Match") "__len__" = pure none := by rw [typeLookup_type, builtinLookup_eq_fast]; kernel_rfl
theorem truthy_match {M : Model} {A : Around} {s : Shared} {Q : Bool → Shared → Prop} {E : Value → Shared → Prop} {a : Addr} (h : IsMatch s.heap a) (hQ : Q true s) : wpAny M A (truthy (.ref a)) Q E s := by
  have hT : s.TypeIs (.ref a) "re.Match" := h
  unfold truthy
  refine wpAny_bind (m := callSpecial? (.ref a) (Str.ofString "__bool__")) (wpAny_callSpecial?_none hT match_nobool ?_)
  refine wpAny_bind (wpAny_specialOf hT match_nolen ?_)
  exact wpAny_pure hQ
theorem truthy_none {M : Model} {A : Around} {s : Shared} {Q : Bool → Shared → Prop} {E : Value → Shared → Prop} (hQ : Q false s) : wpAny M A (truthy .none) Q E s := fun _ _ _ => hQ
set_option maxHeartbeats 1000000 in
theorem hdn_call {w : World} {mg mb} {A : Around} {s : Shared} {Q : Value → Shared → Prop} {E : Value → Shared → Prop} {t : Str} {tk : Tok} {b : Bool}
    (G : Gd w mg mb s.heap) (hA : Room 1 A) (hb : found t = some b) (hz : t.cps.size < 2 ^ 60) (h : ∀ h' k, Kp s.heap h' → Q (.bool (!b)) { s with heap := h', toks := k }) :
    wpAny (model PR w) A (call (.ref 50) [.str t tk]) Q E s := by
  refine' entry (binds := [(Str.ofString "text", .str t tk)]) G hA.dd ?ho ?hcd (BindsTo.of_eq ?hb) ?hcell ?hloc ?kh ?c1 ?c2 ?c3
  case ho => k_is
  case hcd => k_is
  case hb => exact rfl
  case hcell => decide
  case hloc => exact locs rfl
  case c1 => exact rfl
  case c2 => exact rfl
  case c3 => exact rfl
  intro h₁ F
  refine wpAny_execs_cons (wpAny_If (isTrue_plain (MethodCall_ (name_K F G.X G.T (nsRE w) ?_))))
  refine getMethod_builtin ⟨_, (pat43 G |> F.keep _ _), rfl⟩ plain_pattern slot_search type_search (fun a e => ⟨_, (by cases e; exact F.keep _ _ (pat43 G)), rfl⟩) ?_
  refine callWith_method1 (args_cons (ld F rfl (args_nil ?_)))
  have G₁ : Gd w mg mb h₁ := G.keeps F.keep
  refine search_call G₁ hb hz (fun hf => ?_) (fun ht a h' k im => ?_)
  · refine truthy_none ?_
    rw [if_neg Bool.false_ne_true]
    subst hf
    refine wpAny_execs_nil ?_
    dsimp only
    refine wpAny_execs_cons (wpAny_Return_some ?_)
    exact wpAny_pure (h _ _ F.keep)
  · refine truthy_match im ?_
    rw [if_pos rfl]
    subst ht
    refine wpAny_execs_cons (wpAny_Return_some ?_)
    exact wpAny_pure (h _ _ (Kp.trans F.keep k))
end Mine
end
section
open PySem PySem.W PyProof.Rows PySem.Calls
namespace Mine
theorem short {n : Nat} (h : n < 1000) : PySem.Builtin.Str.tooLong n = false := by
  unfold PySem.Builtin.Str.tooLong
  simp only [decide_eq_false_iff_not]
  have := sizeLine_eq
  omega
theorem ite_b {b : Bool} {P R : Prop} (h1 : b = true → P) (h2 : b = false → R) : if b = true then P else R := by
  cases b with
  | true => exact h1 rfl
  | false => exact h2 rfl
theorem ite_t {b : Bool} {P R : Prop} (hb : b = true) (h : P) : if b = true then P else R := by rw [if_pos hb]; exact h
theorem ite_f {b : Bool} {P R : Prop} (hb : b = false) (h : R) : if b = true then P else R := by rw [hb, if_neg Bool.false_ne_true]; exact h
theorem cut {α : Type} {M : Model} {A : Around} {E : Value → Shared → Prop} {s : Shared} {t : Sem α} {Q : α → Shared → Prop} (P : α → Heap → Prop)
    (h1 : wpAny M A t (fun c s' => ∃ h' k, s' = { s with heap := h', toks := k } ∧ Kp s.heap h' ∧ P c h') E s)
    (h2 : ∀ c h' k, P c h' → Kp s.heap h' → Q c { s with heap := h', toks := k }) : wpAny M A t Q E s :=
  wpAny_mono h1 (fun c _ ⟨h', k, e, kp, p⟩ => e ▸ h2 c h' k p kp) fun _ _ x => x
theorem cut_end {s : Shared} {h' : Heap} {k : Nat} {P : Heap → Prop} (kp : Kp s.heap h') (p : P h') : ∃ h'' k', ({ s with heap := h', toks := k } : Shared) = { s with heap := h'', toks := k' } ∧ Kp s.heap h'' ∧ P h'' := ⟨h', k, rfl, kp, p⟩
set_option maxHeartbeats 2000000 in
theorem udm_call {w : World} {mg mb} {A : Around} {s : Shared} {Q : Value → Shared → Prop} {E : Value → Shared → Prop} {a b : Str} {ta tb : Tok} {na nb : Bool}
    (G : Gd w mg mb s.heap) (hA : Room 2 A) (ha : found (Txt.lower a) = some na) (hb : found (Txt.lower b) = some nb) (za : (Txt.lower a).cps.size < 1000) (zb : (Txt.lower b).cps.size < 1000)
    (h : ∀ h' k, Kp s.heap h' → Q (.bool (udmB (Txt.lower a) (Txt.lower b) na nb)) { s with heap := h', toks := k }) :
    wpAny (model PR w) A (call (.ref 57) [.str a ta, .str b tb]) Q E s := by
  refine' entry (binds := [(Str.ofString "A", .str a ta), (Str.ofString "B", .str b tb)]) G hA.dd ?ho ?hcd (BindsTo.of_eq ?hb) ?hcell ?hloc ?kh ?c1 ?c2 ?c3
  case ho => k_is
  case hcd => k_is
  case hb => exact rfl
  case hcell => decide
  case hloc => exact locs rfl
  case c1 => exact rfl
  case c2 => exact rfl
  case c3 => exact rfl
  intro h₁ F
  have hA' : Room 2 A := hA
  -- A = A.lower(); B = B.lower()
  refine wpAny_execs_cons (wpAny_Assign_Name (MethodCall_ (ld F rfl (GM.lower (callWith_method0 (SC.lower (short za) (st F fun h₂ F₂ => ?_)))))))
  dsimp only
  refine wpAny_execs_cons (wpAny_Assign_Name (MethodCall_ (ld F₂ rfl (GM.lower (callWith_method0 (SC.lower (short zb) (st F₂ fun h₃ F₃ => ?_)))))))
  dsimp only
  generalize hx : Txt.lower a = x at *
  generalize hy : Txt.lower b = y at *
  refine wpAny_execs_cons (wpAny_If (cut (fun c _ => c = (na || nb)) ?_ ?_))
  · refine isTrue_not (isTrue_and (isTrue_plain (Call_ (name_K F₃ G.X G.T (nsHDN w) (callWith_K G.X (kp50 w) (args_cons (ld F₃ rfl (args_nil ⟨G.X.keeps F₃.keep, ?_⟩))))))))
    refine hdn_call (G.keeps F₃.keep) hA'.deeper' ha (by omega) fun h₄ k₄ kp₄ => ?_
    have F₄ := F₃.keeps kp₄
    refine wpAny_truthy_bool ?_
    cases na with
    | true => exact ⟨h₄, k₄, rfl, kp₄, rfl⟩
    | false =>
      refine ite_t rfl ?_
      refine isTrue_and (isTrue_plain (Call_ (name_K F₄ G.X G.T (nsHDN w) (callWith_K G.X (kp50 w) (args_cons (ld F₄ rfl (args_nil ⟨G.X.keeps F₄.keep, ?_⟩)))))))
      refine hdn_call (G.keeps F₄.keep) hA'.deeper' hb (by omega) fun h₅ k₅ kp₅ => ?_
      refine wpAny_truthy_bool ?_
      cases nb with
      | true => exact ⟨h₅, k₅, rfl, kp₄.trans kp₅, rfl⟩
      | false =>
        exact ite_t rfl (isTrue_and_nil ⟨h₅, k₅, rfl, kp₄.trans kp₅, rfl⟩)
  · rintro c h₆ k₆ rfl kp₆
    have F₆ := F₃.keeps kp₆
    dsimp only
    refine ite_b (fun hn => ?_) fun hn => ?_
    · refine wpAny_execs_cons (wpAny_If (wpAny_isTrue_Compare1 (ld F₆ rfl (ld F₆ rfl (eq_str (wpAny_truthy_bool ?_))))))
      have e : udmB x y na nb = (x == y) := by unfold udmB; rw [if_pos hn]
      rw [e] at h
      refine ite_b (fun hq => ?_) fun hq => ?_
      · rw [hq] at h
        exact wpAny_execs_cons (wpAny_Return_some (Constant_bool (h _ _ F₆.keep)))
      · rw [hq] at h
        refine wpAny_execs_nil ?_
        dsimp only
        exact wpAny_execs_cons (wpAny_Return_some (Constant_bool (h _ _ F₆.keep)))
    · refine wpAny_execs_nil ?_
      dsimp only
      have hn' : udmB x y na nb = if Txt.startswith y dot && Txt.endswith x y then true else (!(Txt.startswith y dot) && (x == y)) := by unfold udmB; rw [hn, if_neg Bool.false_ne_true]
      rw [hn'] at h
      refine wpAny_execs_cons (wpAny_Assign_Name (MethodCall_ (ld F₆ rfl (GM.startswith (callWith_method1 (args_cons (Constant_str (args_nil (SC.startswith (st F₆ fun h₇ F₇ => ?_)))))))))) 
      dsimp only
      refine wpAny_execs_cons (wpAny_If (cut (fun c _ => c = (Txt.startswith y dot && Txt.endswith x y)) ?_ ?_))
      · refine isTrue_and (isTrue_plain (ld F₇ rfl (wpAny_truthy_bool ?_)))
        refine ite_b (fun hd => ?_) fun hd => ?_
        · refine isTrue_and (isTrue_plain (MethodCall_ (ld F₇ rfl (GM.endswith (callWith_method1 (args_cons (ld F₇ rfl (args_nil (SC.endswith (wpAny_truthy_bool ?_))))))))))
          refine ite_b (fun he => ?_) fun he => ?_
          · exact isTrue_and_nil ⟨_, _, rfl, Kp.rfl, by show true = (Txt.startswith y (Str.ofString ".") && _); rw [hd, he]; rfl⟩
          · exact ⟨_, _, rfl, Kp.rfl, by show false = (Txt.startswith y (Str.ofString ".") && _); rw [hd, he]; rfl⟩
        · exact ⟨_, _, rfl, Kp.rfl, by show false = (Txt.startswith y (Str.ofString ".") && _); rw [hd]; rfl⟩
      · rintro c h₈ k₈ rfl kp₈
        have F₈ := F₇.keeps kp₈
        refine ite_b (fun hc => ?_) fun hc => ?_
        · rw [hc] at h
          exact wpAny_execs_cons (wpAny_Return_some (Constant_bool (h _ _ F₈.keep)))
        · rw [hc] at h
          refine wpAny_execs_nil ?_
          dsimp only
          rw [if_neg Bool.false_ne_true] at h
          have hdot : Txt.startswith y (Str.ofString ".") = Txt.startswith y dot := rfl
          refine wpAny_execs_cons (wpAny_If (cut (fun c _ => c = (!(Txt.startswith y dot) && (x == y))) ?_ ?_))
          · refine isTrue_and (isTrue_not (isTrue_plain (ld F₈ rfl (wpAny_truthy_bool ?_))))
            rw [hdot]
            refine ite_b (fun hd => ?_) fun hd => ?_
            · refine isTrue_and (wpAny_isTrue_Compare1 (ld F₈ rfl (ld F₈ rfl (eq_str (wpAny_truthy_bool ?_)))))
              refine ite_b (fun he => ?_) fun he => ?_
              · exact isTrue_and_nil ⟨_, _, rfl, Kp.rfl, by rw [hd, he]; rfl⟩
              · exact ⟨_, _, rfl, Kp.rfl, by rw [he, Bool.and_false]⟩
            · exact ⟨_, _, rfl, Kp.rfl, by rw [hd]; rfl⟩
          · rintro c h₉ k₉ rfl kp₉
            have F₉ := F₈.keeps kp₉
            refine ite_b (fun he => ?_) fun he => ?_
            · rw [he] at h
              exact wpAny_execs_cons (wpAny_Return_some (Constant_bool (h _ _ F₉.keep)))
            · rw [he] at h
              refine wpAny_execs_nil ?_
              dsimp only
              exact wpAny_execs_cons (wpAny_Return_some (Constant_bool (h _ _ F₉.keep)))
end Mine
end
section
open PySem PySem.W PyProof.Rows PySem.Calls
namespace Mine
abbrev KpB (wr : List Addr) (h h' : Heap) : Prop := ∀ b o, b ∉ wr → h.get? b = some o → h'.get? b = some o
abbrev KpF (fp : List Addr) (h h' : Heap) : Prop := ∀ b ∈ fp, ∀ o, h.get? b = some o → h'.get? b = some o
abbrev NoE : Value → Shared → Prop := fun _ _ => False
theorem for_walk {w : World} {A : Around} {s : Shared} {env : Env} {target : Expr} {body : List Stmt} {I : Addr} {fp wr : List Addr} {n : Nat} {P : Nat → Value → Prop} {St : Nat → Heap → Prop} {Q : Flow → Shared → Prop} {R : Result → Shared → Prop}
    (W : Walks PR w A I fp wr n P St) (J : Nat → Shared → Prop) (hst : St 0 s.heap) (hJ : J 0 s)
    (turn : ∀ i v s₁ h' tk, i < n → P i v → J i s₁ → KpB wr s₁.heap h' →
      wpAny (model PR w) A (assign target env v) (fun _ s₃ => wpAny (model PR w) A (execs body env) (fun f s₄ => match f with
        | .next => J (i + 1) s₄ ∧ KpF fp h' s₄.heap
        | .cont => J (i + 1) s₄ ∧ KpF fp h' s₄.heap
        | .brk => Q .next s₄
        | .ret v => Q (.ret v) s₄) NoE s₃) NoE { s₁ with heap := h', toks := tk })
    (done : ∀ s₁ h' tk, J n s₁ → KpB wr s₁.heap h' → Q .next { s₁ with heap := h', toks := tk })
    (hR : ∀ f s', Q f s' → R (.ok f) s')
    (ht : ∀ v, letOwnedTupleGo target (.ref I) v = pure ()) :
    codeAny (model PR w) A (.forLoop target (.ref I) body [] env) R s := by
  refine codeAny_forLoop (fun k s' => ∃ i, i ≤ n ∧ k = n - i ∧ J i s' ∧ St i s'.heap) ?_ n ⟨0, Nat.zero_le _, by omega, hJ, hst⟩ ht
  rintro k s₁ ⟨i, hi, rfl, hJi, hsti⟩
  by_cases hlt : i < n
  · refine W.item i s₁ _ _ hlt hsti fun v h' tk hP hst' hk => ?_
    refine wpAny_mono (turn i v s₁ h' tk hlt hP hJi hk) (fun _ s₃ h₃ => wpAny_mono h₃ (fun f s₄ h₄ => ?_) fun _ _ x => x.elim) fun _ _ x => x.elim
    cases f with
    | next => exact ⟨n - (i + 1), by omega, i + 1, hlt, rfl, h₄.1, W.frame _ _ _ hst' h₄.2⟩
    | cont => exact ⟨n - (i + 1), by omega, i + 1, hlt, rfl, h₄.1, W.frame _ _ _ hst' h₄.2⟩
    | brk => exact hR _ _ h₄
    | ret v => exact hR _ _ h₄
  · obtain rfl : i = n := by omega
    refine W.done s₁ _ _ hsti fun h' tk hk => ?_
    exact wpAny_execs_nil (hR _ _ (done s₁ h' tk hJi hk))
theorem Fr.step {h₀ h h' : Heap} {L : Addr} {m : Str → Option Value} {wr : List Addr} (F : Fr h₀ L h m) (k : KpB wr h h') (hw : ∀ b ∈ wr, h₀.get? b = none) (hL : L ∉ wr) : Fr h₀ L h' m :=
  ⟨let ⟨o, es, ep, e, r⟩ := F.ns; ⟨o, es, ep, k _ _ hL e, r⟩, fun b o e => k b o (fun hb => by rw [hw b hb] at e; cases e) (F.keep b o e), F.above⟩
theorem stS {M : Model} {A : Around} {E : Value → Shared → Prop} {s : Shared} {name : Str} {scope : Scope} {L a : Addr} {cd : Value} {h₀ : Heap} {m : Str → Option Value} {x : Str} {v : Value} {Q : Unit → Shared → Prop} (F : Fr h₀ L s.heap m)
    (h : ∀ h', Fr h₀ L h' (fun y => if y = x then some v else m y) → Heap.SameBut L s.heap h' → Q () { s with heap := h', toks := s.toks + 1 })
    (hk : scope.kind = .function := by rfl) (hl : (envOf name scope L a cd).kindOf x = some .local := by rfl) :
    wpAny M A (storeName (envOf name scope L a cd) x v) Q E s :=
  wpAny_storeName_local hl F.ns (fun h' hn hs => h h' (F.set hn hs) hs)
    (by show (scope.kind == .class || (scope.kind == .module && L != mainGlobals)) = false; rw [hk]; rfl)
theorem none_at_size {h₀ h : Heap} (k : Kp h₀ h) : h₀.get? h.objs.size = none := by
  cases e : h₀.get? h.objs.size with
  | none => rfl
  | some o => exact absurd (Heap.lt_size (k _ _ e)) (Nat.lt_irrefl _)
def SeqAt (h : Heap) (a : Addr) (items : Array Value) : Prop := h.IsTuple a items ∨ h.IsList a items
theorem SeqAt.keeps {h h' : Heap} {a items} (p : SeqAt h a items) (k : Kp h h') : SeqAt h' a items :=
  p.imp (fun ⟨o, ho, q⟩ => ⟨o, k _ _ ho, q⟩) (fun ⟨o, ho, q⟩ => ⟨o, k _ _ ho, q⟩)
theorem SeqAt.lt {h : Heap} {a items} (p : SeqAt h a items) : a < h.objs.size := p.elim (fun ⟨_, ho, _⟩ => Heap.lt_size ho) fun ⟨_, ho, _⟩ => Heap.lt_size ho
/-- a pure loop over a tuple or a list that stood before: the frame's names alone turn -/
theorem for_seq {w : World} {A : Around} {s : Shared} {name : Str} {scope : Scope} {L a : Addr} {cd : Value} {x : Str} {px : Pos} {body : List Stmt} {Q : Flow → Shared → Prop} {R : Result → Shared → Prop} {E : Value → Shared → Prop}
    {base : Heap} {m : Str → Option Value} {ax : Addr} {items : Array Value}
    (hh : A.handled = none) (F : Fr base L s.heap m) (ht : SeqAt base ax items) (J : Nat → (Str → Option Value) → Prop) (hJ : J 0 m)
    (turn : ∀ i v m₁ h₁ k, items[i]? = some v → J i m₁ → Fr base L h₁ (fun y => if y = x then some v else m₁ y) →
      wpAny (model PR w) A (execs body (envOf name scope L a cd)) (fun f s₄ => match f with
        | .next => ∃ h' k' m', s₄ = { s with heap := h', toks := k' } ∧ Fr base L h' m' ∧ KpB [L] h₁ h' ∧ J (i + 1) m'
        | .cont => ∃ h' k' m', s₄ = { s with heap := h', toks := k' } ∧ Fr base L h' m' ∧ KpB [L] h₁ h' ∧ J (i + 1) m'
        | .brk => Q .next s₄
        | .ret v => Q (.ret v) s₄) NoE { s with heap := h₁, toks := k })
    (done : ∀ m₁ h₁ k, J items.size m₁ → Fr base L h₁ m₁ → Q .next { s with heap := h₁, toks := k })
    (hR : ∀ f s', Q f s' → R (.ok f) s')
    (hk : scope.kind = .function := by rfl) (hl : (envOf name scope L a cd).kindOf x = some .local := by rfl)
    (htg : ∀ I v, letOwnedTupleGo (.Name x px) (.ref I) v = pure () := by intro _ _; rfl) :
    wpAny (model PR w) A (pyIter (.ref ax)) (fun it s₂ => codeAny (model PR w) A (.forLoop (.Name x px) it body [] (envOf name scope L a cd)) R s₂) E s := by
  have hs := ht.keeps F.keep
  have hLs : L < s.heap.objs.size := F.ns.lt
  have hax : ax < s.heap.objs.size := hs.lt
  have haxL : ax ≠ L := by
    intro e
    subst e
    exact absurd (Nat.lt_of_lt_of_le ht.lt F.above) (Nat.lt_irrefl _)
  have hIn : base.get? s.heap.objs.size = none := none_at_size F.keep
  have key : ∀ (o : Obj) (St : Nat → Heap → Prop), Walks PR w A s.heap.objs.size [s.heap.objs.size, ax] [s.heap.objs.size] items.size (fun i v => items[i]? = some v) St → St 0 (s.heap.push o) →
      codeAny (model PR w) A (.forLoop (.Name x px) (.ref s.heap.objs.size) body [] (envOf name scope L a cd)) R { s with heap := s.heap.push o } := by
    intro o St W hst
    refine for_walk W (fun i s₁ => ∃ h₁ k₁ m₁, s₁ = { s with heap := h₁, toks := k₁ } ∧ Fr base L h₁ m₁ ∧ J i m₁) hst ⟨_, s.toks, m, rfl, F.push o, hJ⟩ ?_ ?_ hR (htg _)
    · rintro i v s₁ h' tk hi hv ⟨h₁, k₁, m₁, rfl, F₁, hJ₁⟩ kp
      have F₂ := Fr.step F₁ kp (fun b hb => by rw [List.mem_singleton.mp hb]; exact hIn) (fun hb => by rw [List.mem_singleton.mp hb] at hLs; exact Nat.lt_irrefl _ hLs)
      refine wpAny_assign_Name (stS F₂ (fun h₃ F₃ sb => ?_) hk hl)
      refine wpAny_mono (turn i v m₁ h₃ _ hv hJ₁ F₃) (fun f s₄ h₄ => ?_) fun _ _ e => e
      have fin : (∃ h' k' m', s₄ = { s with heap := h', toks := k' } ∧ Fr base L h' m' ∧ KpB [L] h₃ h' ∧ J (i + 1) m') →
          (∃ h₁ k₁ m₁, s₄ = { s with heap := h₁, toks := k₁ } ∧ Fr base L h₁ m₁ ∧ J (i + 1) m₁) ∧ KpF [s.heap.objs.size, ax] h' s₄.heap := by
        rintro ⟨h₅, k₅, m₅, rfl, F₅, kp₅, hJ₅⟩
        refine ⟨⟨h₅, k₅, m₅, rfl, F₅, hJ₅⟩, fun b hb o e => ?_⟩
        have hbL : b ≠ L := by
          rcases List.mem_cons.mp hb with e | hb
          · exact fun e' => Nat.lt_irrefl _ (by rw [← e', e] at hLs; exact hLs)
          · exact fun e' => haxL ((List.mem_singleton.mp hb) ▸ e')
        exact kp₅ b o (fun hb => hbL (List.mem_singleton.mp hb)) (sb.extBut b o hbL e)
      cases f with
      | next => exact fin h₄
      | cont => exact fin h₄
      | brk => exact h₄
      | ret v => exact h₄
    · rintro s₁ h' tk ⟨h₁, k₁, m₁, rfl, F₁, hJ₁⟩ kp
      exact done m₁ h' tk hJ₁ (Fr.step F₁ kp (fun b hb => by rw [List.mem_singleton.mp hb]; exact hIn) (fun hb => by rw [List.mem_singleton.mp hb] at hLs; exact Nat.lt_irrefl _ hLs))
  rcases hs with hs | hs
  · refine wpAny_pyIter_tuple hs (key _ _ (Walks.tuple hh _ ax (Nat.ne_of_lt hax) items) ⟨⟨_, Heap.get?_push_size _ rfl, rfl, rfl⟩, ?_⟩)
    exact let ⟨o, ho, q⟩ := hs; ⟨o, Heap.get?_push_of_some _ ho, q⟩
  · refine wpAny_pyIter_list hs (key _ _ (Walks.list hh _ ax (Nat.ne_of_lt hax) items) ⟨⟨_, Heap.get?_push_size _ rfl, rfl, rfl⟩, ?_⟩)
    exact let ⟨o, ho, q⟩ := hs; ⟨o, Heap.get?_push_of_some _ ho, q⟩
/-- the policy stands at x: its dict at dx -/
def meths : List Str := [Str.ofString "is_blocked", Str.ofString "is_not_allowed", Str.ofString "blocked_domains", Str.ofString "allowed_domains", Str.ofString "set_blocked_domains", Str.ofString "set_allowed_domains"]
def PolAt (h : Heap) (x dx : Addr) (bt al : Value) : Prop :=
  ∃ es n, h.get? x = some (instObj 272 dx) ∧ h.get? dx = some (dictOf es n) ∧ es.length ≤ 100 ∧ getL (Str.ofString "_blocked_domains") es = some (some bt) ∧ getL (Str.ofString "_allowed_domains") es = some (some al) ∧ ∀ nm ∈ meths, getL nm es = some none
theorem PolAt.keeps {h h' : Heap} {x dx : Addr} {bt al : Value} (p : PolAt h x dx bt al) (k : Kp h h') : PolAt h' x dx bt al :=
  let ⟨es, n, a, b, c⟩ := p; ⟨es, n, k _ _ a, k _ _ b, c⟩
/-- texts as the values of a tuple or a list -/
inductive StrsAre : List Value → List Str → Prop
  | nil : StrsAre [] []
  | cons {x : Str} {t : Tok} {vs : List Value} {xs : List Str} : StrsAre vs xs → StrsAre (.str x t :: vs) (x :: xs)
theorem StrsAre.length {vs xs} (h : StrsAre vs xs) : vs.length = xs.length := by
  induction h with
  | nil => rfl
  | cons _ ih => simp [ih]
theorem StrsAre.get {vs xs} (h : StrsAre vs xs) : ∀ {i : Nat} {v : Value}, vs[i]? = some v → ∃ x t, xs[i]? = some x ∧ v = .str x t := by
  induction h with
  | nil => intro i v e; simp at e
  | cons _ ih =>
    intro i v e
    cases i with
    | zero => simp at e; exact ⟨_, _, by simp, e.symm⟩
    | succ i => simp at e; obtain ⟨x, t, h1, h2⟩ := ih e; exact ⟨x, t, by simpa using h1, h2⟩
def TupOf (h : Heap) (a : Addr) (xs : List Str) : Prop := ∃ vs, h.IsTuple a vs.toArray ∧ StrsAre vs xs
theorem TupOf.keeps {h h' : Heap} {a xs} (p : TupOf h a xs) (k : Kp h h') : TupOf h' a xs := let ⟨vs, t, r⟩ := p; ⟨vs, let ⟨o, ho, q⟩ := t; ⟨o, k _ _ ho, q⟩, r⟩
end Mine
end
section
open PySem PySem.W PyProof.Rows PySem.Calls
namespace Mine
theorem join_small : ∀ L ∈ allL, (signs L).length < 20 := by decide +kernel
theorem low_small {L : Lab} (h : L ∈ allL) : (low L).cps.size < 1000 := by
  have := join_small L h
  rw [low_is h]
  simp only [lowL, Array.size_map]
  unfold signs at this
  rw [Array.length_toList] at this
  omega
theorem udm_ok {w : World} {mg mb} {A : Around} {s : Shared} {Q : Value → Shared → Prop} {E : Value → Shared → Prop} {H D : Lab} {ta tb : Tok}
    (G : Gd w mg mb s.heap) (hA : Room 2 A) (hH : H ∈ allL) (hD : D ∈ allL)
    (h : ∀ h' k, Kp s.heap h' → Q (.bool (lawMatch H D)) { s with heap := h', toks := k }) :
    wpAny (model PR w) A (call (.ref 57) [.str (join H) ta, .str (dom D) tb]) Q E s := by
  have e1 : Txt.lower (join H) = low H := rfl
  have e2 : Txt.lower (dom D) = low D := low_dom hD
  refine udm_call (na := numeric H) (nb := numeric D) G hA (by rw [e1]; exact found_low hH) (by rw [e2]; exact found_low hD) (by rw [e1]; exact low_small hH) (by rw [e2]; exact low_small hD) fun h' k kp => ?_
  rw [e1, e2, udm_eq hH hD]
  exact h h' k kp
section
variable (w : World)
theorem pg_b : plainGet (hd.heap_39 w.params) 272 (Str.ofString "_blocked_domains") = true := by k_is
theorem hd_p : hasDictIn (hd.heap_39 w.params) 272 = true := by k_is
theorem fi_b : findIn (hd.heap_39 w.params) (.ref 272) (Str.ofString "_blocked_domains") = some none := by k_is
theorem fi_a : findIn (hd.heap_39 w.params) (.ref 272) (Str.ofString "_allowed_domains") = some none := by k_is
theorem ng_n : noGet (hd.heap_39 w.params) none = true := by k_is
end
theorem get_blocked {w : World} {mg mb} {A : Around} {s : Shared} {Q : Value → Shared → Prop} {E : Value → Shared → Prop} {base : Heap} {L x dx t : Addr} {m : Str → Option Value} {al : Value} {ex : Bool}
    (G : Gd w mg mb base) (F : Fr base L s.heap m) (p : PolAt s.heap x dx (.ref t) al) (h : Q (.ref t) { s with toks := s.toks + 1 }) :
    wpAny (model PR w) A (getAttr (.ref x) (Str.ofString "_blocked_domains") ex) Q E s := by
  obtain ⟨es, n, h1, h2, h3, h4, h5⟩ := p
  exact get_own F G.X ⟨h1, rfl, rfl, h2⟩ (pg_b w) (hd_p w) (fi_b w) (ng_n w) h4 rfl h
theorem get_allowed {w : World} {mg mb} {A : Around} {s : Shared} {Q : Value → Shared → Prop} {E : Value → Shared → Prop} {base : Heap} {L x dx : Addr} {m : Str → Option Value} {bt al : Value} {ex : Bool}
    (G : Gd w mg mb base) (F : Fr base L s.heap m) (p : PolAt s.heap x dx bt al) (hal : handedIn al = true) (h : Q al { s with toks := s.toks + 1 }) :
    wpAny (model PR w) A (getAttr (.ref x) (Str.ofString "_allowed_domains") ex) Q E s := by
  obtain ⟨es, n, h1, h2, h3, h4, h5, h6⟩ := p
  exact get_own F G.X ⟨h1, rfl, rfl, h2⟩ (pg_b w) (hd_p w) (fi_a w) (ng_n w) h5 hal h
set_option maxHeartbeats 2000000 in
theorem blocked_call {w : World} {mg mb} {A : Around} {s : Shared} {Q : Value → Shared → Prop} {E : Value → Shared → Prop} {H : Lab} {Ds : List Lab} {x dx tb : Addr} {al : Value} {tk : Tok}
    (G : Gd w mg mb s.heap) (hA : Room 3 A) (hH : H ∈ allL) (hDs : ∀ D ∈ Ds, D ∈ allL) (hp : PolAt s.heap x dx (.ref tb) al) (ht : TupOf s.heap tb (Ds.map dom))
    (h : ∀ h' k, Kp s.heap h' → Q (.bool (Ds.any (lawMatch H))) { s with heap := h', toks := k }) :
    wpAny (model PR w) A (call (.ref 136) [.ref x, .str (join H) tk]) Q E s := by
  refine' entry (binds := [(Str.ofString "self", .ref x), (Str.ofString "domain", .str (join H) tk)]) G hA.dd ?ho ?hcd (BindsTo.of_eq ?hb) ?hcell ?hloc ?kh ?c1 ?c2 ?c3
  case ho => k_is
  case hcd => k_is
  case hb => exact rfl
  case hcell => decide
  case hloc => exact locs rfl
  case c1 => exact rfl
  case c2 => exact rfl
  case c3 => exact rfl
  intro h₁ F
  obtain ⟨vs, htup, hvs⟩ := ht
  have hlen : vs.toArray.size = Ds.length := by simp [hvs.length]
  refine wpAny_execs_cons (wpAny_For (Attribute_name (ld F rfl (get_blocked G F (hp.keeps F.keep) ?_))))
  refine for_seq hA.hh F (.inl htup) (fun i m₁ => m₁ (Str.ofString "domain") = some (.str (join H) tk) ∧ ((Ds.take i).any (lawMatch H)) = false) ⟨rfl, rfl⟩ ?_ ?_ (fun _ _ q => q)
  · rintro i v m₁ h₂ k₂ hv ⟨hd, hno⟩ F₂
    obtain ⟨D', t', hx, rfl⟩ := hvs.get (by simpa using hv)
    rw [List.getElem?_map] at hx
    obtain ⟨D, hDi, rfl⟩ := Option.map_eq_some_iff.mp hx
    have hD : D ∈ allL := hDs D (List.mem_of_getElem? hDi)
    have htk : Ds.take (i + 1) = Ds.take i ++ [D] := by rw [List.take_add_one, hDi]; rfl
    refine wpAny_execs_cons (wpAny_If (isTrue_plain (Call_ (name_K F₂ G.X G.T (nsUDM w) (callWith_K G.X (kp57 w) (args_cons (ld F₂ hd (args_cons (ld F₂ rfl (args_nil ⟨G.X.keeps F₂.keep, ?_⟩))))))))))
    refine udm_ok (G.keeps F₂.keep) hA.deeper hH hD fun h₃ k₃ kp₃ => ?_
    refine wpAny_truthy_bool (ite_b (fun hm => ?_) fun hm => ?_)
    · have : Ds.any (lawMatch H) = true := List.any_eq_true.mpr ⟨D, List.mem_of_getElem? hDi, hm⟩
      rw [this] at h
      exact wpAny_execs_cons (wpAny_Return_some (Constant_bool (h _ _ (Kp.trans F₂.keep kp₃))))
    · refine wpAny_execs_nil (wpAny_execs_nil ⟨h₃, k₃, _, rfl, F₂.keeps kp₃, fun b o _ e => kp₃ b o e, hd, ?_⟩)
      rw [htk, List.any_append, hno, List.any_cons, hm]; rfl
  · rintro m₁ h₂ k₂ ⟨_, hno⟩ F₂
    rw [hlen, List.take_length] at hno
    rw [hno] at h
    exact wpAny_execs_cons (wpAny_Return_some (Constant_bool (h _ _ F₂.keep)))
end Mine
end
section
open PySem PySem.W PyProof.Rows PySem.Calls
namespace Mine
/-- what stands as the allowed ones: None, or a tuple of texts -/
def AlAt (h : Heap) (v : Value) : Option (List Lab) → Prop
  | none => v = .none
  | some As => ∃ t, v = .ref t ∧ TupOf h t (As.map dom)
theorem AlAt.keeps {h h' : Heap} {v o} (p : AlAt h v o) (k : Kp h h') : AlAt h' v o := by
  cases o with
  | none => exact p
  | some As => obtain ⟨t, e, q⟩ := p; exact ⟨t, e, q.keeps k⟩
theorem AlAt.handed {h : Heap} {v o} (p : AlAt h v o) : handedIn v = true := by
  cases o with
  | none => rw [show v = .none from p]; rfl
  | some As => obtain ⟨t, rfl, _⟩ := p; rfl
def outB (H : Lab) : Option (List Lab) → Bool
  | none => false
  | some As => !(As.any (lawMatch H))
theorem outB_some (H : Lab) (As : List Lab) : outB H (some As) = !(As.any (lawMatch H)) := rfl
def inAl : Option (List Lab) → Prop
  | none => True
  | some As => ∀ D ∈ As, D ∈ allL
set_option maxHeartbeats 2000000 in
theorem notallowed_call {w : World} {mg mb} {A : Around} {s : Shared} {Q : Value → Shared → Prop} {E : Value → Shared → Prop} {H : Lab} {As : Option (List Lab)} {x dx : Addr} {bt al : Value} {tk : Tok}
    (G : Gd w mg mb s.heap) (hA : Room 3 A) (hH : H ∈ allL) (hAs : inAl As) (hp : PolAt s.heap x dx bt al) (ht : AlAt s.heap al As)
    (h : ∀ h' k, Kp s.heap h' → Q (.bool (outB H As)) { s with heap := h', toks := k }) :
    wpAny (model PR w) A (call (.ref 157) [.ref x, .str (join H) tk]) Q E s := by
  refine' entry (binds := [(Str.ofString "self", .ref x), (Str.ofString "domain", .str (join H) tk)]) G hA.dd ?ho ?hcd (BindsTo.of_eq ?hb) ?hcell ?hloc ?kh ?c1 ?c2 ?c3
  case ho => k_is
  case hcd => k_is
  case hb => exact rfl
  case hcell => decide
  case hloc => exact locs rfl
  case c1 => exact rfl
  case c2 => exact rfl
  case c3 => exact rfl
  intro h₁ F
  refine wpAny_execs_cons (wpAny_If (wpAny_isTrue_Compare1 (Attribute_name (ld F rfl (get_allowed G F (hp.keeps F.keep) ht.handed (Constant_none ?_))))))
  cases As with
  | none =>
    obtain rfl : al = .none := ht
    exact wpAny_is_self rfl (wpAny_truthy_bool (ite_t rfl (wpAny_execs_cons (wpAny_Return_some (Constant_bool (h _ _ F.keep))))))
  | some As =>
    obtain ⟨ta, rfl, vs, htup, hvs⟩ := ht
    refine wpAny_is_other rfl (by intro e; cases e) (wpAny_truthy_bool (ite_f rfl (wpAny_execs_nil ?_)))
    dsimp only
    have hlen : vs.toArray.size = As.length := by simp [hvs.length]
    refine wpAny_execs_cons (wpAny_For (Attribute_name (ld F rfl (get_allowed G F (hp.keeps F.keep) rfl ?_))))
    refine for_seq hA.hh F (.inl htup) (fun i m₁ => m₁ (Str.ofString "domain") = some (.str (join H) tk) ∧ ((As.take i).any (lawMatch H)) = false) ⟨rfl, rfl⟩ ?_ ?_ (fun _ _ q => q)
    · rintro i v m₁ h₂ k₂ hv ⟨hd, hno⟩ F₂
      obtain ⟨D', t', hx, rfl⟩ := hvs.get (by simpa using hv)
      rw [List.getElem?_map] at hx
      obtain ⟨D, hDi, rfl⟩ := Option.map_eq_some_iff.mp hx
      have hD : D ∈ allL := hAs D (List.mem_of_getElem? hDi)
      have htk : As.take (i + 1) = As.take i ++ [D] := by rw [List.take_add_one, hDi]; rfl
      refine wpAny_execs_cons (wpAny_If (isTrue_plain (Call_ (name_K F₂ G.X G.T (nsUDM w) (callWith_K G.X (kp57 w) (args_cons (ld F₂ hd (args_cons (ld F₂ rfl (args_nil ⟨G.X.keeps F₂.keep, ?_⟩))))))))))
      refine udm_ok (G.keeps F₂.keep) hA.deeper hH hD fun h₃ k₃ kp₃ => ?_
      refine wpAny_truthy_bool (ite_b (fun hm => ?_) fun hm => ?_)
      · have : outB H (some As) = false := by
          have : As.any (lawMatch H) = true := List.any_eq_true.mpr ⟨D, List.mem_of_getElem? hDi, hm⟩
          rw [outB_some, this]; rfl
        rw [this] at h
        exact wpAny_execs_cons (wpAny_Return_some (Constant_bool (h _ _ (Kp.trans F₂.keep kp₃))))
      · refine wpAny_execs_nil (wpAny_execs_nil ⟨h₃, k₃, _, rfl, F₂.keeps kp₃, fun b o _ e => kp₃ b o e, hd, ?_⟩)
        rw [htk, List.any_append, hno, List.any_cons, hm]; rfl
    · rintro m₁ h₂ k₂ ⟨_, hno⟩ F₂
      rw [hlen, List.take_length] at hno
      have : outB H (some As) = true := by rw [outB_some, hno]; rfl
      rw [this] at h
      exact wpAny_execs_cons (wpAny_Return_some (Constant_bool (h _ _ F₂.keep)))
set_option maxHeartbeats 1000000 in
theorem bdom_call {w : World} {mg mb} {A : Around} {s : Shared} {Q : Value → Shared → Prop} {E : Value → Shared → Prop} {x dx tb : Addr} {al : Value}
    (G : Gd w mg mb s.heap) (hA : Room 1 A) (hp : PolAt s.heap x dx (.ref tb) al)
    (h : ∀ h' k, Kp s.heap h' → Q (.ref tb) { s with heap := h', toks := k }) :
    wpAny (model PR w) A (call (.ref 122) [.ref x]) Q E s := by
  refine' entry (binds := [(Str.ofString "self", .ref x)]) G hA.dd ?ho ?hcd (BindsTo.of_eq ?hb) ?hcell ?hloc ?kh ?c1 ?c2 ?c3
  case ho => k_is
  case hcd => k_is
  case hb => exact rfl
  case hcell => decide
  case hloc => exact locs rfl
  case c1 => exact rfl
  case c2 => exact rfl
  case c3 => exact rfl
  intro h₁ F
  exact wpAny_execs_cons (wpAny_Return_some (Attribute_name (ld F rfl (get_blocked G F (hp.keeps F.keep) (h _ _ F.keep)))))
set_option maxHeartbeats 1000000 in
theorem adom_call {w : World} {mg mb} {A : Around} {s : Shared} {Q : Value → Shared → Prop} {E : Value → Shared → Prop} {x dx : Addr} {bt al : Value}
    (G : Gd w mg mb s.heap) (hA : Room 1 A) (hp : PolAt s.heap x dx bt al) (hal : handedIn al = true)
    (h : ∀ h' k, Kp s.heap h' → Q al { s with heap := h', toks := k }) :
    wpAny (model PR w) A (call (.ref 143) [.ref x]) Q E s := by
  refine' entry (binds := [(Str.ofString "self", .ref x)]) G hA.dd ?ho ?hcd (BindsTo.of_eq ?hb) ?hcell ?hloc ?kh ?c1 ?c2 ?c3
  case ho => k_is
  case hcd => k_is
  case hb => exact rfl
  case hcell => decide
  case hloc => exact locs rfl
  case c1 => exact rfl
  case c2 => exact rfl
  case c3 => exact rfl
  intro h₁ F
  exact wpAny_execs_cons (wpAny_Return_some (Attribute_name (ld F rfl (get_allowed G F (hp.keeps F.keep) hal (h _ _ F.keep)))))
end Mine
end
section
open PySem PySem.W PyProof.Rows PySem.Calls
namespace Mine
theorem isStr_str (n n' : Str) (t : Tok) : (Value.str n t).isStr n' = (n == n') := rfl
theorem putL_len (name : Str) (hsh : Int) (key v : Value) : ∀ es : List DictEntry, (putL name hsh key v es).length ≤ es.length + 1
  | [] => Nat.le_refl _
  | e :: r => by
    unfold putL
    split
    · simp
    · have := putL_len name hsh key v r; simp only [List.length_cons]; omega
theorem putL_len_in (name : Str) (hsh : Int) (key v : Value) : ∀ es : List DictEntry, es.any (·.key.isStr name) = true → (putL name hsh key v es).length = es.length
  | [], h => by cases h
  | e :: r, h => by
    unfold putL
    split
    · simp
    · rename_i hn
      rw [List.any_cons] at h
      have : r.any (·.key.isStr name) = true := by simpa [hn] using h
      simp [putL_len_in name hsh key v r this]
theorem find_put_same (name : Str) (hsh : Int) (t : Tok) (v : Value) : ∀ es : List DictEntry, ((putL name hsh (.str name t) v es).find? (·.key.isStr name)).map (·.val) = some v
  | [] => by simp [putL, isStr_str]
  | e :: r => by
    unfold putL
    split
    · rename_i h; simp [h]
    · rename_i h
      rw [List.find?_cons]
      have : e.key.isStr name = false := by simpa using h
      rw [this]
      exact find_put_same name hsh t v r
theorem find_put_other (name name' : Str) (hne : name ≠ name') (hsh : Int) (t : Tok) (v : Value) : ∀ es : List DictEntry, ((putL name hsh (.str name t) v es).find? (·.key.isStr name')).map (·.val) = (es.find? (·.key.isStr name')).map (·.val)
  | [] => by
    have : (name == name') = false := by simpa using hne
    simp [putL, isStr_str, this]
  | e :: r => by
    unfold putL
    split
    · rename_i h
      have he : e.key.isStr name' = false := by
        cases q : e.key.isStr name' with
        | false => rfl
        | true => exact absurd (Value.isStr_inj _ _ _ h q) hne
      simp [he]
    · rw [List.find?_cons, List.find?_cons]
      cases e.key.isStr name' with
      | true => rfl
      | false => exact find_put_other name name' hne hsh t v r
theorem ref_put (name : Str) (hsh : Int) (t : Tok) (v : Value) : ∀ es : List DictEntry, (putL name hsh (.str name t) v es).any (·.refKey) = es.any (·.refKey)
  | [] => rfl
  | e :: r => by
    unfold putL
    split
    · rfl
    · rw [List.any_cons, List.any_cons, ref_put name hsh t v r]
theorem getL_eq (name : Str) (es : List DictEntry) : getL name es = match (es.find? (·.key.isStr name)).map (·.val) with | some x => some (some x) | none => if es.any (·.refKey) then none else some none := by
  unfold getL
  cases es.find? (·.key.isStr name) <;> rfl
theorem getL_put_same (name : Str) (hsh : Int) (t : Tok) (v : Value) (es : List DictEntry) : getL name (putL name hsh (.str name t) v es) = some (some v) := by
  rw [getL_eq, find_put_same]
theorem getL_put_other {name name' : Str} (hne : name ≠ name') (hsh : Int) (t : Tok) (v : Value) (es : List DictEntry) : getL name' (putL name hsh (.str name t) v es) = getL name' es := by
  rw [getL_eq, getL_eq, find_put_other name name' hne, ref_put]
theorem any_of_getL {name : Str} {es : List DictEntry} {v : Value} (h : getL name es = some (some v)) : es.any (·.key.isStr name) = true := by
  unfold getL at h
  split at h
  · rename_i e he
    exact List.any_eq_true.mpr ⟨e, List.mem_of_find?_eq_some he, List.find?_some (p := fun x : DictEntry => x.key.isStr name) he⟩
  · split at h <;> cases h
theorem osa_mine {w : World} {A : Around} {s : Shared} {R : Result → Shared → Prop} {x dx C : Addr} {es : List DictEntry} {n : Nat} {name : Str} {tk : Tok} {v : Value} {K : Frag}
    (X : K.In s.heap) (hx : s.heap.get? x = some (instObj C dx)) (hdx : s.heap.get? dx = some (dictOf es n)) (hp : plainOver K C = true) (ht : takerIn K C name = some none)
    (hh : hasDictIn K C = true) (hl : (getL name es).isSome = true) (hz : es.length ≤ 500)
    (h : ∀ h', Heap.SameBut dx s.heap h' → h'.get? dx = some (dictOf (putL name (PyData.keyHash w.params name) (.str name s.toks) v es) (putN name es n)) → R (.ok (.ret .none)) { s with heap := h', toks := s.toks + 1 }) :
    codeAny (model PR w) A (.call (.builtin "object.__setattr__") ⟨[.ref x, .str name tk, v], []⟩) R s := by
  have I : InstAt s.heap x (instObj C dx) C (some (dictOf es n)) := ⟨hx, rfl, rfl, hdx⟩
  refine osa_open X I hp ht fun b => ?_
  obtain ⟨cd, hc, hd'⟩ := any_some hh
  refine wpAny_bind (wpAny_pure (wpAny_bind (wpAny_bind (wpAny_loadPart hx (wpAny_bind ((looks_clsIn X hc).here ?_))))))
  rw [hd']
  refine wpAny_pure (a := some dx) (wpAny_bind (wpAny_pure (wpAny_bind ?_)))
  unfold nsSet
  refine wpAny_bind (wpAny_bind (wpAny_askSetting (wpAny_pure (wpAny_bind (wpAny_mkText (wpAny_bind (wpAny_loadPart hdx ?_)))))))
  dsimp only
  have c : (!es.toArray.any (·.key.isStr name) && es.toArray.any (·.refKey)) = false := by
    rw [← Array.any_toList, ← Array.any_toList]
    show (!(es.any fun x => x.key.isStr name) && es.any fun x => x.refKey) = false
    unfold getL at hl
    split at hl
    · rename_i en he
      rw [List.any_eq_true.mpr ⟨en, List.mem_of_find?_eq_some he, List.find?_some (p := fun x : DictEntry => x.key.isStr name) he⟩]; rfl
    · split at hl
      · cases hl
      · rename_i z; rw [Bool.not_eq_true] at z; rw [z, Bool.and_false]
  rw [aRefKeyMayBeTheName_at, c]
  have hf := putName_dict name (PyData.keyHash w.params name) (.str name s.toks) v es n
  have D' : (s.heap.update dx (Obj.putName name (PyData.keyHash w.params name) (.str name s.toks) v)).get? dx = some (dictOf (putL name (PyData.keyHash w.params name) (.str name s.toks) v es) (putN name es n)) := by
    rw [← hf]
    exact Heap.get?_update_self _ hdx (by rw [hf]; rfl)
  refine wpAny_updatePart hdx ?_
  refine wpAny_bind (wpAny_lookBehind D' (pastItsLine_dict (by
    have := putL_len name (PyData.keyHash w.params name) (.str name s.toks) v es
    rw [List.size_toArray, sizeLine_eq]; omega)) ?_)
  exact wpAny_pure (h _ (Heap.SameBut.update ..) D')
theorem set_mine {w : World} {A : Around} {s : Shared} {Q : Unit → Shared → Prop} {E : Value → Shared → Prop} {x dx C : Addr} {es : List DictEntry} {n : Nat} {name : Str} {v : Value} {K : Frag}
    (X : K.In s.heap) (hx : s.heap.get? x = some (instObj C dx)) (hdx : s.heap.get? dx = some (dictOf es n)) (hs : findIn K (.ref C) "__setattr__" = some (some (.builtin "object.__setattr__"))) (hp : plainOver K C = true) (ht : takerIn K C name = some none)
    (hh : hasDictIn K C = true) (hl : (getL name es).isSome = true) (hz : es.length ≤ 500)
    (h : ∀ h' t, Heap.SameBut dx s.heap h' → h'.get? dx = some (dictOf (putL name (PyData.keyHash w.params name) (.str name t) v es) (putN name es n)) → Q () { s with heap := h', toks := s.toks + 2 }) :
    wpAny (model PR w) A (setAttr (.ref x) name v) Q E s := by
  have I : InstAt s.heap x (instObj C dx) C (some (dictOf es n)) := ⟨hx, rfl, rfl, hdx⟩
  exact set_plain X I hs (osa_mine (s := { s with toks := s.toks + 1 }) X hx hdx hp ht hh hl hz fun h' sb e => h h' _ sb e)
section
variable (w : World)
theorem sa_p : findIn (hd.heap_39 w.params) (.ref 272) "__setattr__" = some (some (.builtin "object.__setattr__")) := by k_is
theorem po_p : plainOver (hd.heap_39 w.params) 272 = true := by k_is
theorem ta_b : takerIn (hd.heap_39 w.params) 272 (Str.ofString "_blocked_domains") = some none := by k_is
theorem ta_a : takerIn (hd.heap_39 w.params) 272 (Str.ofString "_allowed_domains") = some none := by k_is
end
theorem PolAt.setB {w : World} {h h' : Heap} {x dx : Addr} {bt al v : Value} {t : Tok} (p : PolAt h x dx bt al) (sb : Heap.SameBut dx h h')
    (e : ∀ es n, h.get? dx = some (dictOf es n) → h'.get? dx = some (dictOf (putL (Str.ofString "_blocked_domains") (PyData.keyHash w.params (Str.ofString "_blocked_domains")) (.str (Str.ofString "_blocked_domains") t) v es) (putN (Str.ofString "_blocked_domains") es n))) :
    PolAt h' x dx v al := by
  obtain ⟨es, n, h1, h2, h3, h4, h5, h6⟩ := p
  have hne : x ≠ dx := by rintro rfl; rw [h1] at h2; cases h2
  refine ⟨_, _, (sb.2 _ hne).trans h1, e es n h2, ?_, getL_put_same .., ?_, fun nm hm => ?_⟩
  · rw [putL_len_in _ _ _ _ _ (any_of_getL h4)]; exact h3
  · rw [getL_put_other (by decide)]; exact h5
  · rw [getL_put_other (by intro e; subst e; revert hm; decide)]; exact h6 nm hm
theorem PolAt.setA {w : World} {h h' : Heap} {x dx : Addr} {bt al v : Value} {t : Tok} (p : PolAt h x dx bt al) (sb : Heap.SameBut dx h h')
    (e : ∀ es n, h.get? dx = some (dictOf es n) → h'.get? dx = some (dictOf (putL (Str.ofString "_allowed_domains") (PyData.keyHash w.params (Str.ofString "_allowed_domains")) (.str (Str.ofString "_allowed_domains") t) v es) (putN (Str.ofString "_allowed_domains") es n))) :
    PolAt h' x dx bt v := by
  obtain ⟨es, n, h1, h2, h3, h4, h5, h6⟩ := p
  have hne : x ≠ dx := by rintro rfl; rw [h1] at h2; cases h2
  refine ⟨_, _, (sb.2 _ hne).trans h1, e es n h2, ?_, ?_, getL_put_same .., fun nm hm => ?_⟩
  · rw [putL_len_in _ _ _ _ _ (any_of_getL h5)]; exact h3
  · rw [getL_put_other (by decide)]; exact h4
  · rw [getL_put_other (by intro e; subst e; revert hm; decide)]; exact h6 nm hm
end Mine
end
section
open PySem PySem.W PyProof.Rows PySem.Calls
namespace Mine
def LstOf (h : Heap) (a : Addr) (xs : List Str) : Prop := ∃ vs, h.IsList a vs.toArray ∧ StrsAre vs xs
/-- the same of a plain list -/
def PLst (h : Heap) (a : Addr) (xs : List Str) : Prop := ∃ vs, h.PlainList a vs.toArray ∧ StrsAre vs xs
theorem PLst.lst {h : Heap} {a xs} (p : PLst h a xs) : LstOf h a xs := let ⟨vs, t, r⟩ := p; ⟨vs, t.isList, r⟩
theorem LstOf.keeps {h h' : Heap} {a xs} (p : LstOf h a xs) (k : Kp h h') : LstOf h' a xs := let ⟨vs, ⟨o, e, q⟩, r⟩ := p; ⟨vs, ⟨o, k _ _ e, q⟩, r⟩
theorem TupOf.at' {h h' : Heap} {a xs} (p : TupOf h a xs) (k : ∀ o, h.get? a = some o → h'.get? a = some o) : TupOf h' a xs := let ⟨vs, t, r⟩ := p; ⟨vs, let ⟨o, ho, q⟩ := t; ⟨o, k _ ho, q⟩, r⟩
theorem TupOf.ne_dict {h : Heap} {a d xs es n} (p : TupOf h a xs) (e : h.get? d = some (dictOf es n)) : a ≠ d := by
  rintro rfl
  obtain ⟨vs, ⟨o, ho, hc, _⟩, _⟩ := p
  rw [e] at ho
  cases ho
  simp at hc
theorem tuple_call {w : World} {A : Around} {s : Shared} {Q : Value → Shared → Prop} {E : Value → Shared → Prop} {l : Addr} {xs : List Str} (hl : LstOf s.heap l xs) (hz : xs.length ≤ 1000)
    (h : ∀ t h', Kp s.heap h' → s.heap.get? t = none → TupOf h' t xs → Q (.ref t) { s with heap := h' }) : wpAny (model PR w) A (call (.type "tuple") [.ref l]) Q E s := by
  obtain ⟨vs, hl, hv⟩ := hl
  refine call_tuple_list hl (fun h' kp => ?_) (by have := sizeLine_eq; have := hv.length; simp only [List.size_toArray]; omega)
  refine h _ _ (fun b o e => Heap.get?_push_of_some _ (kp b o e)) (none_at_size kp) ⟨vs, ⟨_, Heap.get?_push_size _ rfl, rfl, _, rfl⟩, hv⟩
set_option maxHeartbeats 1000000 in
theorem setb_call {w : World} {mg mb} {A : Around} {s : Shared} {Q : Value → Shared → Prop} {E : Value → Shared → Prop} {xs : List Str} {x dx g : Addr} {bt al : Value}
    (G : Gd w mg mb s.heap) (hA : Room 1 A) (hp : PolAt s.heap x dx bt al) (hl : LstOf s.heap g xs) (hz : xs.length ≤ 1000)
    (h : ∀ h' k t, KpB [dx] s.heap h' → PolAt h' x dx (.ref t) al → TupOf h' t xs → Q .none { s with heap := h', toks := k }) :
    wpAny (model PR w) A (call (.ref 129) [.ref x, .ref g]) Q E s := by
  refine' entry (binds := [(Str.ofString "self", .ref x), (Str.ofString "blocked_domains", .ref g)]) G hA.dd ?ho ?hcd (BindsTo.of_eq ?hb) ?hcell ?hloc ?kh ?c1 ?c2 ?c3
  case ho => k_is
  case hcd => k_is
  case hb => exact rfl
  case hcell => decide
  case hloc => exact locs rfl
  case c1 => exact rfl
  case c2 => exact rfl
  case c3 => exact rfl
  intro h₁ F
  refine wpAny_execs_cons (plainObj_wpAny_Assign_Attribute (Call_ (name_B F G.X G.T (nsTuple w) boot_tuple (by decide) (callWith_type1 (args_cons (ld F rfl (args_nil ?_)))))))
  refine tuple_call (hl.keeps F.keep) hz fun t h₂ kp₂ _ ht => ?_
  have F₂ := F.keeps kp₂
  refine ld F₂ rfl ?_
  have hp₂ := hp.keeps F₂.keep
  obtain ⟨es, n, h1, h2, h3, h4, h5, h6⟩ := id hp₂
  refine set_mine (G.keeps F₂.keep).X h1 h2 (sa_p w) (po_p w) (ta_b w) (hd_p w) (by rw [h4]; rfl) (by omega) fun h₃ tk sb e₃ => ?_
  refine wpAny_execs_nil (h h₃ _ t (fun b o hb e => sb.extBut b o (fun q => hb (by rw [q]; exact List.mem_singleton.mpr rfl)) (F₂.keep b o e)) ?_ ?_)
  · refine PolAt.setB hp₂ sb (w := w) (t := tk) fun es' n' e' => ?_
    rw [h2] at e'
    cases e'
    exact e₃
  · exact ht.at' fun o e => sb.extBut _ _ (ht.ne_dict h2) e
set_option maxHeartbeats 1000000 in
theorem seta_none {w : World} {mg mb} {A : Around} {s : Shared} {Q : Value → Shared → Prop} {E : Value → Shared → Prop} {x dx : Addr} {bt al : Value}
    (G : Gd w mg mb s.heap) (hA : Room 1 A) (hp : PolAt s.heap x dx bt al)
    (h : ∀ h' k, KpB [dx] s.heap h' → PolAt h' x dx bt .none → Q .none { s with heap := h', toks := k }) :
    wpAny (model PR w) A (call (.ref 150) [.ref x, .none]) Q E s := by
  refine' entry (binds := [(Str.ofString "self", .ref x), (Str.ofString "allowed_domains", .none)]) G hA.dd ?ho ?hcd (BindsTo.of_eq ?hb) ?hcell ?hloc ?kh ?c1 ?c2 ?c3
  case ho => k_is
  case hcd => k_is
  case hb => exact rfl
  case hcell => decide
  case hloc => exact locs rfl
  case c1 => exact rfl
  case c2 => exact rfl
  case c3 => exact rfl
  intro h₁ F
  refine wpAny_execs_cons (wpAny_If (wpAny_isTrue_Compare1 (ld F rfl (Constant_none (wpAny_isNot_self rfl (wpAny_truthy_bool (ite_f rfl (wpAny_execs_nil ?_))))))))
  dsimp only
  refine wpAny_execs_cons (plainObj_wpAny_Assign_Attribute (ld F rfl (ld F rfl ?_)))
  have hp₂ := hp.keeps F.keep
  obtain ⟨es, n, h1, h2, h3, h4, h5, h6⟩ := id hp₂
  refine set_mine (G.keeps F.keep).X h1 h2 (sa_p w) (po_p w) (ta_a w) (hd_p w) (by rw [h5]; rfl) (by omega) fun h₃ tk sb e₃ => ?_
  refine wpAny_execs_nil (h h₃ _ (fun b o hb e => sb.extBut b o (fun q => hb (by rw [q]; exact List.mem_singleton.mpr rfl)) (F.keep b o e)) ?_)
  refine PolAt.setA hp₂ sb (w := w) (t := tk) fun es' n' e' => ?_
  rw [h2] at e'
  cases e'
  exact e₃
set_option maxHeartbeats 1000000 in
theorem seta_list {w : World} {mg mb} {A : Around} {s : Shared} {Q : Value → Shared → Prop} {E : Value → Shared → Prop} {xs : List Str} {x dx g : Addr} {bt al : Value}
    (G : Gd w mg mb s.heap) (hA : Room 1 A) (hp : PolAt s.heap x dx bt al) (hl : LstOf s.heap g xs) (hz : xs.length ≤ 1000)
    (h : ∀ h' k t, KpB [dx] s.heap h' → PolAt h' x dx bt (.ref t) → TupOf h' t xs → Q .none { s with heap := h', toks := k }) :
    wpAny (model PR w) A (call (.ref 150) [.ref x, .ref g]) Q E s := by
  refine' entry (binds := [(Str.ofString "self", .ref x), (Str.ofString "allowed_domains", .ref g)]) G hA.dd ?ho ?hcd (BindsTo.of_eq ?hb) ?hcell ?hloc ?kh ?c1 ?c2 ?c3
  case ho => k_is
  case hcd => k_is
  case hb => exact rfl
  case hcell => decide
  case hloc => exact locs rfl
  case c1 => exact rfl
  case c2 => exact rfl
  case c3 => exact rfl
  intro h₁ F
  refine wpAny_execs_cons (wpAny_If (wpAny_isTrue_Compare1 (ld F rfl (Constant_none (wpAny_isNot_other rfl (by intro e; cases e) (wpAny_truthy_bool (ite_t rfl ?_)))))))
  refine wpAny_execs_cons (wpAny_Assign_Name (Call_ (name_B F G.X G.T (nsTuple w) boot_tuple (by decide) (callWith_type1 (args_cons (ld F rfl (args_nil ?_)))))))
  refine tuple_call (hl.keeps F.keep) hz fun t h₂ kp₂ hnew ht => ?_
  have F₂ := F.keeps kp₂
  refine stS F₂ fun h₂' F₃ sb₂ => ?_
  refine wpAny_execs_nil ?_
  dsimp only
  refine wpAny_execs_cons (plainObj_wpAny_Assign_Attribute (ld F₃ rfl (ld F₃ rfl ?_)))
  have hp₂ := hp.keeps F₃.keep
  obtain ⟨es, n, h1, h2, h3, h4, h5, h6⟩ := id hp₂
  refine set_mine (G.keeps F₃.keep).X h1 h2 (sa_p w) (po_p w) (ta_a w) (hd_p w) (by rw [h5]; rfl) (by omega) fun h₃ tk sb e₃ => ?_
  have ht₂ : TupOf h₂' t xs := ht.at' fun o e => sb₂.extBut _ _ (by
    rintro rfl
    obtain ⟨oL, es, ep, hL, _⟩ := F.ns
    have e1 : h₁.get? s.heap.objs.size = none := hnew
    rw [hL] at e1
    cases e1) e
  refine wpAny_execs_nil (h h₃ _ t (fun b o hb e => sb.extBut b o (fun q => hb (by rw [q]; exact List.mem_singleton.mpr rfl)) (F₃.keep b o e)) ?_ ?_)
  · refine PolAt.setA hp₂ sb (w := w) (t := tk) fun es' n' e' => ?_
    rw [h2] at e'
    cases e'
    exact e₃
  · exact ht₂.at' fun o e => sb.extBut _ _ (ht₂.ne_dict h2) e
end Mine
end
section
open PySem PySem.W PyProof.Rows PySem.Calls
namespace Mine
def div3 : Nat → Int → Int
  | 0, n => n
  | k + 1, n => Int.fdiv (div3 k n) 3
theorem picks_shift : ∀ (k : Nat) (n : Int), picks (k + 1) n = picks k n ++ [pick (div3 k n)]
  | 0, n => rfl
  | k + 1, n => by
    have h : ∀ j m, div3 j (Int.fdiv m 3) = div3 (j + 1) m := by
      intro j m
      induction j with
      | zero => rfl
      | succ j ih => show Int.fdiv (div3 j (Int.fdiv m 3)) 3 = Int.fdiv (div3 (j + 1) m) 3; rw [ih]
    show pick n :: picks (k + 1) (Int.fdiv n 3) = _
    rw [picks_shift k (Int.fdiv n 3), h]
    rfl
theorem StrsAre.append {vs xs us ys} (h : StrsAre vs xs) (h' : StrsAre us ys) : StrsAre (vs ++ us) (xs ++ ys) := by
  induction h with
  | nil => exact h'
  | cons _ ih => exact .cons ih
theorem StrsAre.one (x : Str) (t : Tok) : StrsAre [.str x t] [x] := .cons .nil
theorem fmod_cases2 (n : Int) : Int.fmod n 2 = 0 ∨ Int.fmod n 2 = 1 := by
  have h1 := fmod_lo n (n := 2) (by decide)
  have h2 := fmod_hi n (n := 2) (by decide)
  omega
theorem fmod_cases3 (n : Int) : Int.fmod n 3 = 0 ∨ Int.fmod n 3 = 1 ∨ Int.fmod n 3 = 2 := by
  have h1 := fmod_lo n (n := 3) (by decide)
  have h2 := fmod_hi n (n := 3) (by decide)
  omega
theorem ne_of_seq_ns {h : Heap} {a L : Addr} {its : Array Value} {m : Str → Option Value} (p : h.PlainList a its) (n : h.Ns L m) : a ≠ L := by
  rintro rfl
  obtain ⟨k, e⟩ := p
  obtain ⟨o, es, ep, ho, hd, _⟩ := n
  rw [e] at ho
  cases ho
  cases hd
theorem getMethod_append {M : Model} {A : Around} {E : Value → Shared → Prop} {s : Shared} {l : Addr} {its : Array Value} {pl : Sem Bool} {Q : Value × List Value → Shared → Prop} (h : s.heap.PlainList l its)
    (hQ : Q (.builtin "list.append", [.ref l]) s) : wpAny M A (getMethod (.ref l) (Str.ofString "append") pl) Q E s :=
  let ⟨_, e⟩ := h; getMethod_list_append e rfl rfl hQ
theorem newL {M : Model} {A : Around} {E : Value → Shared → Prop} {s : Shared} {vs : List Value} {Q : Value → Shared → Prop}
    (h : ∀ a h', Kp s.heap h' → s.heap.get? a = none → h'.PlainList a vs.toArray → Q (.ref a) { s with heap := h' }) (hz : vs.length ≤ 1000) : wpAny M A (newList vs) Q E s :=
  wpAny_newObj_type (h _ _ (fun b o e => Heap.get?_push_of_some _ e) (none_at_size Kp.rfl) ⟨0, Heap.get?_push_size _ rfl⟩) (by show vs.toArray.size ≤ sizeLine; have := sizeLine_eq; rw [List.size_toArray]; omega)
theorem newT {M : Model} {A : Around} {E : Value → Shared → Prop} {s : Shared} {vs : List Value} {Q : Value → Shared → Prop}
    (h : ∀ a h', Kp s.heap h' → s.heap.get? a = none → h'.get? a = some { cls := .type "tuple", data := .seq vs.toArray } → Q (.ref a) { s with heap := h' }) (hz : vs.length ≤ 1000) : wpAny M A (newTuple vs) Q E s :=
  wpAny_newObj_type (h _ _ (fun b o e => Heap.get?_push_of_some _ e) (none_at_size Kp.rfl) (Heap.get?_push_size _ rfl)) (by show vs.toArray.size ≤ sizeLine; have := sizeLine_eq; rw [List.size_toArray]; omega)
theorem pick_item (n : Int) (t₁ t₂ t₃ : Tok) : ∃ t, ([Value.str (Str.ofString "a7") t₁, .str (Str.ofString "Ba7") t₂, .str (Str.ofString "77") t₃] : List Value).toArray[(Int.fmod n 3).toNat]? = some (.str (pick n) t) := by
  unfold pick
  rcases fmod_cases3 n with e | e | e <;> rw [e]
  · exact ⟨t₁, rfl⟩
  · exact ⟨t₂, rfl⟩
  · exact ⟨t₃, rfl⟩
theorem list_item {w : World} {A : Around} {E : Value → Shared → Prop} {s : Shared} {value slice : Expr} {l : Addr} {its : Array Value} {k : Int} {u : Tok} {v : Value} {Q : Value → Shared → Prop}
    (hl : s.heap.IsList l its) (h0 : 0 ≤ k) (hhi : k < 2 ^ 63) (hx : its[k.toNat]? = some v) (h : Q v s)
    (hs : subscripted slice false (.ref l) (.int k u) = operate [.ref l, .int k u] (getItem (.ref l) (.int k u)) := by with_unfolding_all rfl) :
    wpAny (model PR w) A (subscriptTail value slice (.ref l) (.int k u)) Q E s :=
  tail_any hl.typeIs slot_list_getitem.lookup (wpAny_getItem_list hl h0 hhi hx h) hs
theorem ne_of_new {h : Heap} {a I : Addr} {o : Obj} (e : h.get? a = some o) (n : h.get? I = none) : a ≠ I := by
  rintro rfl
  rw [e] at n
  cases n
theorem ne_new_lst {h : Heap} {a I : Addr} {its : Array Value} (e : h.PlainList a its) (n : h.get? I = none) : a ≠ I := let ⟨_, q⟩ := e; ne_of_new q n
theorem ne_new_ns {h : Heap} {a I : Addr} {m : Str → Option Value} (e : h.Ns a m) (n : h.get? I = none) : a ≠ I := let ⟨_, _, _, q, _⟩ := e; ne_of_new q n
theorem old_none {h₀ h : Heap} (k : Kp h₀ h) {I : Addr} (n : h.get? I = none) : h₀.get? I = none := by
  cases q : h₀.get? I with
  | none => rfl
  | some o => rw [k _ _ q] at n; cases n
theorem range_call {w : World} {A : Around} {s : Shared} {E : Value → Shared → Prop} {n : Int} {t : Tok} {Q : Value → Shared → Prop}
    (h : ∀ r h' k u v, Kp s.heap h' → s.heap.get? r = none → IsRange h' r 0 n 1 u t v → Q (.ref r) { s with heap := h', toks := k }) : wpAny (model PR w) A (call (.type "range") [.int n t]) Q E s :=
  call_range_1 (h _ _ _ _ _ (fun b o e => Heap.get?_push_of_some _ e) (none_at_size Kp.rfl) (Heap.get?_push_size _ rfl))
/-- a loop over range(N): J says nothing of the iterator -/
theorem for_range {w : World} {A : Around} {s : Shared} {env : Env} {target : Expr} {body : List Stmt} {Q : Flow → Shared → Prop} {R : Result → Shared → Prop} {E : Value → Shared → Prop} {r : Addr} {N : Nat} {t u v : Tok}
    (hh : A.handled = none) (hr : IsRange s.heap r 0 N 1 t u v) (hN : N ≤ 1000) (J : Nat → Shared → Prop) (hJ : J 0 s)
    (keep : ∀ i s₁ I h' tk, J i s₁ → s.heap.get? I = none → KpB [I] s₁.heap h' → J i { s₁ with heap := h', toks := tk })
    (turn : ∀ i t I s₁, i < N → J i s₁ → s.heap.get? I = none →
      wpAny (model PR w) A (assign target env (.int i t)) (fun _ s₃ => wpAny (model PR w) A (execs body env) (fun f s₄ => match f with
        | .next => J (i + 1) s₄ ∧ (∀ h, s₁.heap.get? I = some h → s₄.heap.get? I = some h)
        | .cont => J (i + 1) s₄ ∧ (∀ h, s₁.heap.get? I = some h → s₄.heap.get? I = some h)
        | .brk => Q .next s₄
        | .ret v => Q (.ret v) s₄) NoE s₃) NoE s₁)
    (done : ∀ s₁, J N s₁ → Q .next s₁) (hR : ∀ f s', Q f s' → R (.ok f) s')
    (htg : ∀ I v, letOwnedTupleGo target (.ref I) v = pure () := by intro _ _; rfl) :
    wpAny (model PR w) A (pyIter (.ref r)) (fun it s₂ => codeAny (model PR w) A (.forLoop target it body [] env) R s₂) E s := by
  have hrs : Builtin.Range.rangeSize 0 (N : Int) 1 = (N : Int) := by rw [rangeSize_one]; split <;> omega
  have hIn : s.heap.get? s.heap.objs.size = none := none_at_size Kp.rfl
  refine wpAny_pyIter_range hr (small_one (by omega) (by omega) (by omega) (by omega)) ?_
  rw [hrs]
  refine for_walk (Walks.range hh s.heap.objs.size 0 1 N) J ?_ ?_ ?_ ?_ hR (htg _)
  · show IsRangeIter _ _ _ _ _
    have := Heap.get?_push_size s.heap (o := { cls := .type "range_iterator", data := .fields #[rawInt 0, rawInt (N : Int), rawInt 1] }) rfl
    simpa using this
  · exact keep 0 s s.heap.objs.size _ s.toks hJ hIn fun b o _ e => Heap.get?_push_of_some _ e
  · rintro i v s₁ h' tk hi ⟨t', rfl⟩ hJi kp
    have hz : (0 : Int) + (i : Nat) * 1 = (i : Int) := by omega
    rw [hz]
    refine wpAny_mono (turn i t' s.heap.objs.size _ hi (keep i s₁ _ h' tk hJi hIn kp) hIn) (fun _ s₃ h₃ => wpAny_mono h₃ (fun f s₄ h₄ => ?_) fun _ _ e => e) fun _ _ e => e
    cases f with
    | next => exact ⟨h₄.1, fun b hb o e => by rw [List.mem_singleton.mp hb] at e ⊢; exact h₄.2 o e⟩
    | cont => exact ⟨h₄.1, fun b hb o e => by rw [List.mem_singleton.mp hb] at e ⊢; exact h₄.2 o e⟩
    | brk => exact h₄
    | ret v => exact h₄
  · intro s₁ h' tk hJn kp
    exact done _ (keep N s₁ _ h' tk hJn hIn kp)
theorem head_vals (n : Int) (tk : Tok) : ∃ vs : List Value, List.foldl (fun x1 x2 => x1 ++ x2) #[] (List.replicate (if (#[Value.str (Str.ofString "") tk] : Array Value).isEmpty = true then 0 else (Int.fmod n 2).toNat) #[Value.str (Str.ofString "") tk]) = vs.toArray ∧ StrsAre vs (headOf n) := by
  unfold headOf
  rcases fmod_cases2 n with e | e <;> rw [e]
  · exact ⟨[], rfl, .nil⟩
  · exact ⟨[.str (Str.ofString "") tk], rfl, .cons .nil⟩
set_option maxHeartbeats 2000000 in
theorem labels_call {w : World} {mg mb} {A : Around} {s : Shared} {Q : Value → Shared → Prop} {E : Value → Shared → Prop} {n : Int} {tk : Tok}
    (G : Gd w mg mb s.heap) (hA : Room 1 A)
    (h : ∀ a h' k, Kp s.heap h' → s.heap.get? a = none → LstOf h' a (labelsOf n) → Q (.ref a) { s with heap := h', toks := k }) :
    wpAny (model PR w) A (call (.ref 281) [.int n tk]) Q E s := by
  refine' entry (binds := [(Str.ofString "n", .int n tk)]) G hA.dd ?ho ?hcd (BindsTo.of_eq ?hb) ?hcell ?hloc ?kh ?c1 ?c2 ?c3
  case ho => k_is
  case hcd => k_is
  case hb => exact rfl
  case hcell => decide
  case hloc => exact locs rfl
  case c1 => exact rfl
  case c2 => exact rfl
  case c3 => exact rfl
  intro h₁ F
  -- labels = [''] * (n % 2)
  refine wpAny_execs_cons (wpAny_Assign_Name (wpAny_BinOp (List_ (args_cons (Constant_str (args_nil (newList_N F News.nil fun h₂ F₂ N₂ => ?_)))))))
  dsimp only at N₂ ⊢
  refine wpAny_BinOp (ld F₂ rfl (wpAny_Constant_int (mod_int (by decide) ?_)))
  dsimp only
  refine mul_list F₂ N₂ (N₂.get (.head _)) (by have := fmod_lo n (n := 2) (by decide); omega) (by have := fmod_hi n (n := 2) (by decide); omega) ?_ fun h₃ F₃ N₃ => ?_
  · show 1 * (Int.fmod n 2).toNat ≤ 2 ^ 24
    rcases fmod_cases2 n with e | e <;> rw [e] <;> decide
  dsimp only at N₃ ⊢
  obtain ⟨vs₀, ev, hv₀⟩ := head_vals n (s.toks + 1)
  have hl₃' : h₃.PlainList h₂.objs.size vs₀.toArray := ⟨0, (N₃.get (.head _)).trans (by rw [← ev]; rfl)⟩
  have hfresh : s.heap.get? h₂.objs.size = none := N₃.fresh (.head _)
  generalize h₂.objs.size = a at hl₃' hfresh ⊢
  clear N₃ N₂ F₂ ev
  -- n = n // 2; size = 1 + n % 3; n = n // 3
  refine stS F₃ fun h₄ F₄ sb₄ => ?_
  have hl₄ := hl₃'.extBut sb₄.extBut (ne_of_seq_ns hl₃' F₃.ns)
  dsimp only at F₄ ⊢
  refine wpAny_execs_cons (wpAny_Assign_Name (wpAny_BinOp (ld F₄ rfl (wpAny_Constant_int (floordiv_int (by decide) (stS F₄ fun h₅ F₅ sb₅ => ?_))))))
  have hl₅ := hl₄.extBut sb₅.extBut (ne_of_seq_ns hl₄ F₄.ns)
  dsimp only at F₅ ⊢
  refine wpAny_execs_cons (wpAny_Assign_Name (wpAny_BinOp (wpAny_Constant_int (wpAny_BinOp (ld F₅ rfl (wpAny_Constant_int (mod_int (by decide) (add_int (stS F₅ fun h₆ F₆ sb₆ => ?_)))))))))
  have hl₆ := hl₅.extBut sb₆.extBut (ne_of_seq_ns hl₅ F₅.ns)
  dsimp only at F₆ ⊢
  refine wpAny_execs_cons (wpAny_Assign_Name (wpAny_BinOp (ld F₆ rfl (wpAny_Constant_int (floordiv_int (by decide) (stS F₆ fun h₇ F₇ sb₇ => ?_))))))
  have hl₇ := hl₆.extBut sb₇.extBut (ne_of_seq_ns hl₆ F₆.ns)
  dsimp only at F₇ ⊢
  -- for k in range(size)
  have hsz : ((sizeOf n : Nat) : Int) = 1 + Int.fmod (Int.fdiv n 2) 3 := by
    have := fmod_lo (Int.fdiv n 2) (n := 3) (by decide)
    unfold sizeOf; omega
  have hs3 : sizeOf n ≤ 3 := by
    have := fmod_hi (Int.fdiv n 2) (n := 3) (by decide)
    omega
  rw [← hsz] at F₇
  refine wpAny_execs_cons (wpAny_For (Call_ (name_B F₇ G.X G.T (nsRange w) boot_range (by decide) (callWith_type1 (args_cons (ld F₇ rfl (args_nil (range_call fun r h₈ k₈ u v kp₈ _ hr₈ => ?_))))))))
  dsimp only at kp₈ ⊢
  have F₈ := F₇.keeps kp₈
  have hl₈ : h₈.PlainList a vs₀.toArray := hl₇.at fun o e => kp₈ _ o e
  clear sb₄ sb₅ sb₆ sb₇ hl₃' hl₄ hl₅ hl₆ F₃ F₄ F₅ F₆ F₇ F hl₇ kp₈
  have hLn : labelsOf n = headOf n ++ picks (sizeOf n) (Int.fdiv (Int.fdiv n 2) 3) := rfl
  rw [hLn] at h
  clear hLn
  generalize Int.fdiv (Int.fdiv n 2) 3 = n3 at F₈ h ⊢
  refine for_range hA.hh hr₈ (by omega) (fun i s₁ => ∃ H k m₁, s₁ = { s with heap := H, toks := k } ∧ Fr s.heap s.heap.objs.size H m₁ ∧ m₁ (Str.ofString "labels") = some (.ref a) ∧
    (∃ t, m₁ (Str.ofString "n") = some (.int (div3 i n3) t)) ∧ PLst H a (headOf n ++ picks i n3)) ?_ ?_ ?_ ?_ (fun _ _ q => q)
  · exact ⟨_, _, _, rfl, F₈, rfl, ⟨_, rfl⟩, ⟨vs₀, hl₈, by simpa [picks] using hv₀⟩⟩
  · rintro i s₁ I h' tk ⟨H, k, m₁, rfl, FH, hlab, hn, vs, hl, hv⟩ hI kp
    refine ⟨h', tk, m₁, rfl, Fr.step FH kp (fun b hb => ?_) (fun hb => ne_new_ns F₈.ns hI (List.mem_singleton.mp hb)), hlab, hn, vs, hl.at fun o e => kp _ _ (fun hb => ne_new_lst hl₈ hI (List.mem_singleton.mp hb)) e, hv⟩
    rw [List.mem_singleton.mp hb]
    exact old_none F₈.keep hI
  · rintro i t I s₁ hi ⟨H, k, m₁, rfl, FH, hlab, ⟨tn, hn⟩, vs, hl, hv⟩ hI
    dsimp only
    refine wpAny_assign_Name (stS FH fun h₉ F₉ sb₉ => ?_)
    dsimp only at F₉ sb₉ ⊢
    have hl₉ := hl.extBut sb₉.extBut (ne_of_seq_ns hl FH.ns)
    have hlab₉ : (fun y => if y = Str.ofString "k" then some (Value.int i t) else m₁ y) (Str.ofString "labels") = some (.ref a) := (if_neg (by decide)).trans hlab
    have hn₉ : (fun y => if y = Str.ofString "k" then some (Value.int i t) else m₁ y) (Str.ofString "n") = some (.int (div3 i n3) tn) := (if_neg (by decide)).trans hn
    refine wpAny_execs_cons (wpAny_Expr (MethodCall_ (ld F₉ hlab₉ (getMethod_append hl₉ (callWith_method1 (args_cons (Subscript_ (List_ (args_cons (Constant_str (args_cons (Constant_str (args_cons (Constant_str (args_nil (newL (fun l h₁₀ kp₁₀ hnew hl₁₀ => ?_) (by show 3 ≤ 1000; omega)))))))))))))))))
    dsimp only at kp₁₀ hnew hl₁₀ ⊢
    have F₁₀ := F₉.keeps kp₁₀
    refine wpAny_BinOp (ld F₁₀ hn₉ (wpAny_Constant_int (mod_int (by decide) ?_)))
    dsimp only
    obtain ⟨tp, hp⟩ := pick_item (div3 i n3) (k + 1) (k + 1 + 1) (k + 1 + 1 + 1)
    refine list_item hl₁₀.isList (fmod_lo _ (by decide)) (Int.lt_trans (fmod_hi _ (by decide)) (by decide)) hp ?_
    refine args_nil ?_
    have hl₁₁ : h₁₀.PlainList a vs.toArray := hl₉.at fun o e => kp₁₀ _ o e
    refine wpAny_list_append_plain hl₁₁ (fun h₁₂ hl₁₂ sb₁₂ => ?_) ?_
    · dsimp only at sb₁₂ ⊢
      have F₁₂ : Fr s.heap s.heap.objs.size h₁₂ _ := Fr.step (wr := [a]) F₁₀ (fun b o hb e => sb₁₂.extBut b o (fun q => hb (by rw [q]; exact .head _)) e) (fun b hb => by rw [List.mem_singleton.mp hb]; exact hfresh) (fun hb => ne_of_seq_ns hl₁₁ F₁₀.ns (List.mem_singleton.mp hb).symm)
      refine wpAny_execs_cons (wpAny_Assign_Name (wpAny_BinOp (ld F₁₂ hn₉ (wpAny_Constant_int (floordiv_int (by decide) (stS F₁₂ fun h₁₃ F₁₃ sb₁₃ => ?_))))))
      dsimp only at F₁₃ sb₁₃ ⊢
      refine wpAny_execs_nil ⟨⟨h₁₃, _, _, rfl, F₁₃, (if_neg (by decide)).trans hlab₉, ⟨_, if_pos rfl⟩, ?_⟩, fun o e => ?_⟩
      · refine ⟨vs ++ [.str (pick (div3 i n3)) tp], ?_, ?_⟩
        · have := hl₁₂.extBut sb₁₃.extBut (ne_of_seq_ns hl₁₂ F₁₂.ns)
          simpa using this
        · rw [picks_shift, ← List.append_assoc]
          exact hv.append (.one _ _)
      · have hIa := ne_new_lst hl₈ hI
        have hIL := ne_new_ns F₈.ns hI
        exact sb₁₃.extBut _ _ hIL.symm (sb₁₂.extBut _ _ hIa.symm (kp₁₀ _ _ (sb₉.extBut _ _ hIL.symm e)))
    · have := sizeLine_eq
      have h1 := hv.length
      have h2 : (headOf n).length ≤ 1 := by unfold headOf; split <;> simp
      have h3 : ∀ j m, (picks j m).length = j := by intro j; induction j with | zero => intro m; rfl | succ j ih => intro m; simp [picks, ih]
      simp only [List.length_append, h3] at h1
      simp only [List.size_toArray]
      omega
  · rintro s₁ ⟨H, k, m₁, rfl, FH, hlab, hn, hl⟩
    dsimp only
    refine wpAny_execs_cons (wpAny_Return_some (ld FH hlab ?_))
    exact h a H k FH.keep hfresh hl.lst
end Mine
end
section
open PySem PySem.W PyProof.Rows PySem.Calls
namespace Mine
/-! every label list is of the 78 -/
theorem pick_mem (n : Int) : pick n ∈ W3 := by
  unfold pick
  rcases fmod_cases3 n with e | e | e <;> rw [e] <;> decide
theorem picks_mem : ∀ (k : Nat) (n : Int), picks k n ∈ tails k
  | 0, _ => List.mem_singleton.mpr rfl
  | k + 1, n => List.mem_flatMap.mpr ⟨_, picks_mem k (Int.fdiv n 3), List.mem_map.mpr ⟨_, pick_mem n, rfl⟩⟩
theorem labels_mem (n : Int) : labelsOf n ∈ allL := by
  unfold labelsOf allL
  refine List.mem_flatMap.mpr ⟨headOf n, ?_, List.mem_map.mpr ⟨_, ?_, rfl⟩⟩
  · unfold headOf; split <;> simp
  · have h1 := fmod_lo (Int.fdiv n 2) (n := 3) (by decide)
    have h2 := fmod_hi (Int.fdiv n 2) (n := 3) (by decide)
    have h3 : sizeOf n = 1 ∨ sizeOf n = 2 ∨ sizeOf n = 3 := by unfold sizeOf; omega
    rcases h3 with e | e | e <;> rw [e]
    · exact List.mem_append_left _ (List.mem_append_left _ (picks_mem 1 _))
    · exact List.mem_append_left _ (List.mem_append_right _ (picks_mem 2 _))
    · exact List.mem_append_right _ (picks_mem 3 _)
/-! comparisons -/
theorem StrsAre.getElem {vs xs} (h : StrsAre vs xs) (i : Nat) (hi : i < vs.length) : ∃ t, vs[i] = .str (xs[i]'(h.length ▸ hi)) t := by
  obtain ⟨x, t, h1, h2⟩ := h.get (List.getElem?_eq_getElem hi)
  refine ⟨t, ?_⟩
  rw [h2]
  have : xs[i]'(h.length ▸ hi) = x := by
    have := List.getElem?_eq_getElem (h.length ▸ hi : i < xs.length)
    rw [h1] at this
    exact (Option.some.inj this).symm
  rw [this]
theorem eqAt_strs {A : Around} {s : Shared} {vs us : List Value} {xs ys : List Str} (h : StrsAre vs xs) (h' : StrsAre us ys) (hl : vs.length = us.length) :
    ∀ j (h1 : j < vs.toArray.size) (h2 : j < us.toArray.size), SeqAt.EqAt A s vs.toArray[j] us.toArray[j] (xs.getD j nilT == ys.getD j nilT) := by
  intro j h1 h2
  have h1' : j < vs.length := by simpa using h1
  have h2' : j < us.length := by simpa using h2
  obtain ⟨t, e⟩ := h.getElem j h1'
  obtain ⟨u, e'⟩ := h'.getElem j h2'
  have f1 : j < xs.length := h.length ▸ h1'
  have f2 : j < ys.length := h'.length ▸ h2'
  have g1 : xs.getD j nilT = xs[j] := by rw [List.getD_eq_getElem?_getD, List.getElem?_eq_getElem f1]; rfl
  have g2 : ys.getD j nilT = ys[j] := by rw [List.getD_eq_getElem?_getD, List.getElem?_eq_getElem f2]; rfl
  rw [g1, g2]
  simp only [List.getElem_toArray, e, e']
  exact SeqAt.EqAt.str_str _ _ _ _
theorem all_eq : ∀ (xs ys : List Str), xs.length = ys.length → ((List.range xs.length).all fun j => xs.getD j nilT == ys.getD j nilT) = (xs == ys)
  | [], [], _ => rfl
  | x :: xs, y :: ys, h => by
    have ih := all_eq xs ys (by simpa using h)
    rw [List.length_cons, List.range_succ_eq_map, List.all_cons, List.all_map]
    show ((x == y) && ((List.range xs.length).all fun j => xs.getD j nilT == ys.getD j nilT)) = _
    rw [ih]
    rfl
theorem eq_strs {w : World} {A : Around} {s : Shared} {E : Value → Shared → Prop} {Q : Value → Shared → Prop} {a b : Addr} {vs us : List Value} {xs ys : List Str}
    (ha : s.heap.IsList a vs.toArray) (hb : s.heap.IsList b us.toArray) (h : StrsAre vs xs) (h' : StrsAre us ys) (hu : A.units < cLine) (hQ : Q (.bool (xs == ys)) s) :
    wpAny (model PR w) A (compareOp .Eq (.ref a) (.ref b)) Q E s := by
  by_cases hl : vs.length = us.length
  · refine SeqAt.eq_listAt ha hb (by simpa using hl) hu (eqAt_strs h h' hl) ?_
    rw [List.size_toArray, h.length, all_eq xs ys (by rw [← h.length, ← h'.length, hl])]
    exact hQ
  · refine SeqAt.eq_list_lengthsAt ha hb (by simpa using hl) hu ?_
    have : (xs == ys) = false := by
      rw [beq_eq_false_iff_ne]
      rintro rfl
      exact hl (h.length.trans h'.length.symm)
    rw [this] at hQ
    exact hQ
theorem ne_nil {w : World} {A : Around} {s : Shared} {E : Value → Shared → Prop} {Q : Value → Shared → Prop} {a b : Addr} {vs : List Value}
    (ha : s.heap.IsList a vs.toArray) (hb : s.heap.IsList b #[]) (hu : A.units < cLine) (hQ : Q (.bool (!vs.isEmpty)) s) :
    wpAny (model PR w) A (compareOp .NotEq (.ref a) (.ref b)) Q E s := by
  refine cmp_ofNotEq ?_
  cases vs with
  | nil => exact SeqAt.RcNeAt.lists (e := fun _ => true) ha hb rfl hu (fun j h1 => absurd h1 (Nat.not_lt_zero _)) PR w E Q hQ
  | cons v vs => exact SeqAt.RcNeAt.lists_lengths ha hb (by simp) hu PR w E Q hQ
theorem eq_nil {w : World} {A : Around} {s : Shared} {E : Value → Shared → Prop} {Q : Value → Shared → Prop} {a b : Addr} {vs : List Value}
    (ha : s.heap.IsList a vs.toArray) (hb : s.heap.IsList b #[]) (hu : A.units < cLine) (hQ : Q (.bool vs.isEmpty) s) :
    wpAny (model PR w) A (compareOp .Eq (.ref a) (.ref b)) Q E s := by
  cases vs with
  | nil => exact SeqAt.eq_listAt (e := fun _ => true) ha hb rfl hu (fun j h1 => absurd h1 (Nat.not_lt_zero _)) hQ
  | cons v vs => exact SeqAt.eq_list_lengthsAt ha hb (by simp) hu hQ
/-- two tuples of the same texts are not unequal -/
theorem ne_tups {w : World} {A : Around} {s : Shared} {E : Value → Shared → Prop} {Q : Value → Shared → Prop} {a b : Addr} {xs : List Str}
    (ha : TupOf s.heap a xs) (hb : TupOf s.heap b xs) (hu : A.units < cLine) (hQ : Q (.bool false) s) :
    wpAny (model PR w) A (compareOp .NotEq (.ref a) (.ref b)) Q E s := by
  obtain ⟨vs, ha, h⟩ := ha
  obtain ⟨us, hb, h'⟩ := hb
  have hl : vs.length = us.length := h.length.trans h'.length.symm
  refine cmp_ofNotEq (SeqAt.RcNeAt.tuples ha hb hu (eqAt_strs h h' hl) PR w E Q ?_)
  have e1 : min vs.toArray.size us.toArray.size = xs.length := by simp only [List.size_toArray, hl, Nat.min_self, h'.length]
  have e2 : (vs.toArray.size == us.toArray.size) = true := by simp [hl]
  rw [e1, e2, all_eq xs xs rfl]
  simpa using hQ
end Mine
end
section
open PySem PySem.W PyProof.Rows PySem.Calls
namespace Mine
theorem nmG {w : World} {mg mb} {A : Around} {s : Shared} {env : Env} {x : Str} {pos : Pos} {v : Value} {Q : Value → Shared → Prop} {E : Value → Shared → Prop} (G : Gd w mg mb s.heap)
    (e : nsIn (hd.heap_39 w.params) mainGlobals x = some (some v)) (h : Q v s)
    (hg : env.globals = mainGlobals := by rfl) (hk : env.scope.kind = .function := by rfl) (hx : env.kindOf x = some .globalImplicit := by rfl) (hd : (x == ("__debug__" : Str)) = false := by decide) :
    wpAny (model PR w) A (eval (.Name x pos) env) Q E s :=
  Name_function_global hk hx (loadGlobal_global (env := env) (by rw [hg]; exact G.T.g) (mg_of G.X G.T.g e) h) hd
theorem nmB {w : World} {mg mb} {A : Around} {s : Shared} {env : Env} {x : Str} {pos : Pos} {v : Value} {Q : Value → Shared → Prop} {E : Value → Shared → Prop} (G : Gd w mg mb s.heap)
    (e : nsIn (hd.heap_39 w.params) mainGlobals x = some none) (hv : bootBuiltins x = some v) (hn : x ≠ "__name__") (h : Q v s)
    (hg : env.globals = mainGlobals := by rfl) (hb : env.builtins = builtinsNs := by rfl) (hk : env.scope.kind = .function := by rfl) (hx : env.kindOf x = some .globalImplicit := by rfl) (hd : (x == ("__debug__" : Str)) = false := by decide) :
    wpAny (model PR w) A (eval (.Name x pos) env) Q E s :=
  Name_function_global hk hx (loadGlobal_builtin (env := env) (by rw [hg]; exact G.T.g) (mg_none_of G.X G.T.g e) (by rw [hb]; exact G.T.b) ((G.T.builtins x hn).trans hv) h) hd
theorem nmL {M : Model} {A : Around} {s : Shared} {env : Env} {x : Str} {pos : Pos} {v : Value} {m : Str → Option Value} {Q : Value → Shared → Prop} {E : Value → Shared → Prop} (n : s.heap.Ns env.locals m) (hv : m x = some v) (h : Q v s)
    (hk : env.scope.kind = .function := by rfl) (hx : env.kindOf x = some .local := by rfl) (hd : (x == ("__debug__" : Str)) = false := by decide) :
    wpAny M A (eval (.Name x pos) env) Q E s := wpAny_Name (wpAny_loadName_local hk hx n hv h) hd
theorem len_call {w : World} {A : Around} {s : Shared} {E : Value → Shared → Prop} {Q : Value → Shared → Prop} {a : Addr} {its : Array Value} (hl : s.heap.IsList a its) (hz : its.size ≤ 1000) (h : ∀ t k, Q (.int (its.size : Nat) t) { s with toks := k }) :
    wpAny (model PR w) A (call (.builtin "len") [.ref a]) Q E s := call_len_list hl (by omega) (h _ _)
theorem list_neg {w : World} {A : Around} {E : Value → Shared → Prop} {s : Shared} {value slice : Expr} {l : Addr} {its : Array Value} {k : Int} {u : Tok} {v : Value} {Q : Value → Shared → Prop}
    (hl : s.heap.IsList l its) (h0 : k < 0) (h1 : -(its.size : Int) ≤ k) (hfit : -(2 ^ 63) ≤ k) (hx : its[(k + its.size).toNat]? = some v) (h : Q v s)
    (hs : subscripted slice false (.ref l) (.int k u) = operate [.ref l, .int k u] (getItem (.ref l) (.int k u)) := by with_unfolding_all rfl) :
    wpAny (model PR w) A (subscriptTail value slice (.ref l) (.int k u)) Q E s :=
  tail_any hl.typeIs slot_list_getitem.lookup (wpAny_getItem_list_neg hl h0 h1 hfit hx h) hs
theorem test_one {w : World} {A : Around} {s : Shared} {env : Env} {c : Expr} {E : Value → Shared → Prop} {Q : Bool → Shared → Prop} (h : wpAny (model PR w) A (isTrue c env (eval c env)) Q E s) :
    wpAny (model PR w) A (forIn [c] true fun c r => if r = true then do let ok ← isTrue c env (eval c env); pure (ForInStep.yield ok) else pure (ForInStep.yield r)) Q E s := by
  rw [List.forIn_cons]
  refine wpAny_bind ?_
  rw [if_pos rfl]
  refine wpAny_bind (wpAny_mono h (fun ok s' q => wpAny_pure ?_) fun _ _ e => e)
  dsimp only
  rw [List.forIn_nil]
  exact wpAny_pure q
theorem numeric_eq {vs : List Value} {L : Lab} (h : StrsAre vs L) : (decide ((1 : Int) < (vs.toArray.size : Nat)) = true → ∃ x t, vs.toArray[((-1 : Int) + (vs.toArray.size : Nat)).toNat]? = some (.str x t) ∧ numeric L = (x == Str.ofString "77")) ∧
    (decide ((1 : Int) < (vs.toArray.size : Nat)) = false → numeric L = false) := by
  have hl := h.length
  simp only [List.size_toArray]
  refine ⟨fun h1 => ?_, fun h1 => ?_⟩
  · have h1 := of_decide_eq_true h1
    have hi : ((-1 : Int) + (vs.length : Nat)).toNat = vs.length - 1 := by omega
    rw [hi]
    have hlt : vs.length - 1 < vs.length := by omega
    obtain ⟨t, e⟩ := h.getElem (vs.length - 1) hlt
    refine ⟨_, t, by rw [List.getElem?_toArray, List.getElem?_eq_getElem hlt, e], ?_⟩
    unfold numeric
    have : decide (1 < L.length) = true := decide_eq_true (by omega)
    rw [this, Bool.true_and, List.getLast?_eq_getElem?]
    have hlt' : L.length - 1 < L.length := by omega
    rw [List.getElem?_eq_getElem hlt']
    simp only [hl]
    rfl
  · have h1 := of_decide_eq_false h1
    unfold numeric
    have : decide (1 < L.length) = false := decide_eq_false (by omega)
    rw [this, Bool.false_and]
end Mine
end
section
open PySem PySem.W PyProof.Rows PySem.Calls
namespace Mine
theorem StrsAre.inj {vs xs} (h : StrsAre vs xs) : ∀ {ys}, StrsAre vs ys → xs = ys := by
  induction h with
  | nil => intro ys h; cases h; rfl
  | cons _ ih => intro ys h; cases h with | cons h => rw [ih h]
theorem LstOf.inj {h : Heap} {a : Addr} {xs ys : List Str} (p : LstOf h a xs) (q : LstOf h a ys) : xs = ys := by
  obtain ⟨vs, ⟨o, e, _, n, d⟩, h1⟩ := p
  obtain ⟨us, ⟨o', e', _, m, d'⟩, h2⟩ := q
  rw [e] at e'
  cases e'
  rw [d] at d'
  have : vs = us := by
    injection d' with d'
    simpa using d'
  subst this
  exact h1.inj h2
theorem drop_strs {vs xs} (h : StrsAre vs xs) : ∀ k, StrsAre (vs.drop k) (xs.drop k) := by
  induction h with
  | nil => intro k; simp; exact .nil
  | cons h ih => intro k; cases k with | zero => exact .cons h | succ k => exact ih k
theorem slicePick_neg (items : Array Value) (k : Nat) (h0 : 0 < k) (hk : k ≤ items.size) : slicePick items (some (-(k : Int))) none none = (items.toList.drop (items.size - k)).toArray := by
  rw [← slicePick_from items (items.size - k) (by omega)]
  unfold slicePick
  have e : sliceBounds (some (-(k : Int))) none none items.size = sliceBounds (some ((items.size - k : Nat) : Int)) none none items.size := by
    simp only [sliceBounds, Option.getD_none]
    have h1 : (-(k : Int)) < 0 := by omega
    have h2 : ¬ (((items.size - k : Nat) : Int) < 0) := by omega
    simp only [h1, h2, if_true, if_false, show (1 : Int) > 0 by decide]
    congr 1
    omega
  rw [e]
theorem slice_mine {w : World} {A : Around} {s : Shared} {E : Value → Shared → Prop} {Q : Value → Shared → Prop} {env : Env} {value : Expr} {lower upper : Option Expr} {p pos : Pos}
    (h : wpAny (model PR w) A (eval value env) (fun o s₁ => wpAny (model PR w) A (evalPart lower env) (fun vl s₂ => wpAny (model PR w) A (evalPart upper env) (fun vu s₃ =>
      ∃ l items lo hi, o = .ref l ∧ s₃.heap.IsList l items ∧ items.size ≤ 1000 ∧ IsPart vl lo ∧ IsPart vu hi ∧
        ∀ r h', Kp s₃.heap h' → s₃.heap.get? r = none → h'.PlainList r (slicePick items lo hi none) → Q (.ref r) { s₃ with heap := h' }) E s₂) E s₁) E s)
    (ht : ∀ o r, letTemporaryGo value o r = pure () := by intro _ _; rfl) :
    wpAny (model PR w) A (eval (.Subscript value (.Slice lower upper none p) pos) env) Q E s := by
  refine wpAny_Subscript_list_slice (wpAny_mono h (fun o s₁ h₁ => wpAny_mono h₁ (fun vl s₂ h₂ => wpAny_mono h₂ (fun vu s₃ h₃ => ?_) fun _ _ e => e) fun _ _ e => e) fun _ _ e => e) ht
  obtain ⟨l, items, lo, hi, e, hl, hz, p1, p2, hQ⟩ := h₃
  refine ⟨l, items, lo, hi, e, hl, by have := sizeLine_eq; omega, p1, p2, hQ _ _ (fun b o e => Heap.get?_push_of_some _ (Heap.get?_push_of_some _ e)) ?_ ⟨0, ?_⟩⟩
  · exact old_none (h := s₃.heap.push { cls := .type "slice", data := .fields #[vl, vu, .none] }) (fun b o e => Heap.get?_push_of_some _ e) (by rw [← Heap.size_push s₃.heap { cls := .type "slice", data := .fields #[vl, vu, .none] }]; exact none_at_size Kp.rfl)
  · have := Heap.get?_push_size (s₃.heap.push { cls := .type "slice", data := .fields #[vl, vu, .none] }) (o := { cls := .type "list", data := .seq (slicePick items lo hi none) }) rfl
    rw [Heap.size_push] at this
    exact this
theorem allL_ne : ∀ L ∈ allL, 1 ≤ L.length ∧ L.length ≤ 4 ∧ (L.headD nilT == nilT → 2 ≤ L.length) := by decide +kernel
set_option maxHeartbeats 4000000 in
theorem match_call {w : World} {mg mb} {A : Around} {s : Shared} {Q : Value → Shared → Prop} {E : Value → Shared → Prop} {a b : Addr} {H D : Lab}
    (G : Gd w mg mb s.heap) (hA : Room 1 A) (ha : LstOf s.heap a H) (hb : LstOf s.heap b D) (hH : H ∈ allL) (hD : D ∈ allL)
    (h : ∀ h' k, Kp s.heap h' → Q (.bool (lawMatch H D)) { s with heap := h', toks := k }) :
    wpAny (model PR w) A (call (.ref 291) [.ref a, .ref b]) Q E s := by
  refine' entry (binds := [(Str.ofString "host", .ref a), (Str.ofString "domain", .ref b)]) G hA.dd ?ho ?hcd (BindsTo.of_eq ?hb) ?hcell ?hloc ?kh ?c1 ?c2 ?c3
  case ho => k_is
  case hcd => k_is
  case hb => exact rfl
  case hcell => decide
  case hloc => exact locs rfl
  case c1 => exact rfl
  case c2 => exact rfl
  case c3 => exact rfl
  intro h₁ F
  obtain ⟨lH1, lH2, _⟩ := allL_ne H hH
  obtain ⟨lD1, lD2, lD3⟩ := allL_ne D hD
  -- numbers = [..]
  refine wpAny_execs_cons (wpAny_Assign_ListComp_walk (fun v => if v = .ref a then numeric H else numeric D) (fun v y => y = v) ?hsw ?hfree ?hcell ?hkind ?hnames ?hx ?hy ?hp ?hh ?hs)
  case hsw => with_unfolding_all rfl
  case hfree => decide
  case hcell => decide
  case hkind => rfl
  case hnames => decide
  case hx => rfl
  case hy => rfl
  case hp => rfl
  case hs => intro _; rfl
  refine Tuple_ (args_cons (ld F rfl (args_cons (ld F rfl (args_nil (newT (fun t h₂ kp₂ hnew ht => ?_) (by show 2 ≤ 1000; omega)))))))
  dsimp only at kp₂ hnew ⊢
  have F₂ := F.keeps kp₂
  have ha₂ := ha.keeps F₂.keep
  have hb₂ := hb.keeps F₂.keep
  have hL₂ : s.heap.objs.size < h₂.objs.size := F₂.ns.lt
  have ht₂ : t < h₂.objs.size := Heap.lt_size ht
  have hI : s.heap.get? h₂.objs.size = none := none_at_size F₂.keep
  have hu : ∀ env, (A.deeper env).units < cLine := fun env => by show A.units + 3 < cLine; have := hA.u; omega
  refine wpAny_pyIter_tuple (items := #[.ref a, .ref b]) ⟨_, ht, rfl, _, rfl⟩ ?_
  dsimp only
  refine ⟨h₂.objs.size, [h₂.objs.size, t], [h₂.objs.size], _, _, _, _, rfl, Walks.tuple (by exact hA.hh) _ t (Nat.ne_of_lt ht₂) #[.ref a, .ref b], by show 2 ≤ sizeLine; have := sizeLine_eq; omega, ⟨⟨_, Heap.get?_push_size _ rfl, rfl, rfl⟩, ⟨_, Heap.get?_push_of_some _ ht, rfl, _, rfl⟩⟩, ?_, ?_, (F₂.push _).ns, ⟨?_, ?_⟩, ?_⟩
  · intro b hb
    rw [Heap.size_push]
    rcases List.mem_cons.mp hb with e | hb
    · rw [e]; exact Nat.lt_succ_self _
    · rw [List.mem_singleton.mp hb]; exact Nat.lt_succ_of_lt ht₂
  · intro hm
    have := List.mem_singleton.mp hm
    exact absurd hL₂ (by rw [← this]; exact Nat.lt_irrefl _)
  · -- the tests
    intro C i v s₃ m₃ E' hP hn hm hk htk
    have kp₃ : Kp s.heap s₃.heap := fun b o e => hk b o (fun hb => by rw [List.mem_singleton.mp hb, hI] at e; cases e) (Heap.get?_push_of_some _ (F₂.keep _ _ e))
    have G₃ := G.keeps kp₃
    have hcase : ∃ c L, v = .ref c ∧ LstOf s.heap c L ∧ (if v = .ref a then numeric H else numeric D) = numeric L ∧ L.length ≤ 4 := by
      rcases i with _ | _ | i
      · have : v = .ref a := by simpa using hP.symm
        exact ⟨a, H, this, ha, if_pos this, lH2⟩
      · have e : v = .ref b := by simpa using hP.symm
        by_cases hab : b = a
        · subst hab
          exact ⟨b, H, e, ha, if_pos e, lH2⟩
        · exact ⟨b, D, e, hb, if_neg (by rw [e]; intro q; exact hab (Value.ref.inj q)), lD2⟩
      · simp at hP
    obtain ⟨c, L, rfl, hLs, hpv, hLl⟩ := hcase
    rw [hpv]
    obtain ⟨us, hus, hss⟩ := hLs.keeps kp₃
    obtain ⟨num1, num2⟩ := numeric_eq hss
    have hz : us.toArray.size ≤ 4 := by rw [List.size_toArray, hss.length]; exact hLl
    refine test_one (isTrue_and (wpAny_isTrue_Compare1 (Call_ (nmB G₃ (nsLen w) boot_len (by decide) (PyProof.Rows.callWith_builtin1 (args_cons (nmL hn hm (args_nil (len_call hus (by omega) fun t k => wpAny_Constant_int (PyProof.Rows.gt_int (wpAny_truthy_bool ?_)))))))))))
    dsimp only
    refine ite_b (fun h1 => ?_) fun h1 => ?_
    · obtain ⟨x, tx, hx, hnum⟩ := num1 h1
      have h1' := of_decide_eq_true h1
      refine isTrue_and (wpAny_isTrue_Compare1 (Subscript_ (nmL hn hm (UnaryOp_ (wpAny_Constant_int (PyProof.Rows.neg_int (list_neg hus (by omega) (by omega) (by omega) hx (Constant_str (eq_str (wpAny_truthy_bool ?_))))))))))
      dsimp only
      refine ite_b (fun h2 => ?_) fun h2 => ?_
      · exact isTrue_and_nil ⟨by rw [hnum, h2], _, _, rfl, Kp.rfl⟩
      · exact ⟨by rw [hnum, h2], _, _, rfl, Kp.rfl⟩
    · exact ⟨by rw [num2 h1], _, _, rfl, Kp.rfl⟩
  · -- the element
    intro C i v s₃ m₃ E' hP hp hn hm hk htk
    exact nmL hn hm ⟨rfl, _, s₃.toks, rfl, Kp.rfl⟩
  · -- behind it
    intro X h₃ k₃ ys vs hX hl hpl hlen hP hF hns hk
    have F₃ : Fr s.heap s.heap.objs.size h₃ (fun z => if z = Str.ofString "numbers" then some (Value.ref X) else List.lookup z [(Str.ofString "host", Value.ref a), (Str.ofString "domain", Value.ref b)].reverse) :=
      ⟨hns, fun c o e => hk c o (Nat.ne_of_lt (Heap.lt_size e)) (fun hb => by rw [List.mem_singleton.mp hb, hI] at e; cases e) (Heap.get?_push_of_some _ (F₂.keep _ _ e)), Nat.le_refl _⟩
    have hys : ys.toList.isEmpty = !(numeric H || numeric D) := by
      match vs, hlen, hP, hF with
      | [v0, v1], _, hP, hF =>
        have e0 : v0 = .ref a := by have := hP 0 v0 rfl; simpa using this.symm
        have e1 : v1 = .ref b := by have := hP 1 v1 rfl; simpa using this.symm
        subst e0 e1
        have hl := hF.length
        have hb' : (if Value.ref b = Value.ref a then numeric H else numeric D) = numeric D := by
          by_cases hab : b = a
          · subst hab
            rw [if_pos rfl, ha.inj hb]
          · exact if_neg fun q => hab (Value.ref.inj q)
        simp only [List.filter_cons, List.filter_nil, hb', if_true] at hl
        clear hF hP
        generalize ys.toList = l at hl ⊢
        generalize numeric H = x at hl ⊢
        generalize numeric D = y at hl ⊢
        cases x <;> cases y <;> cases l <;> first | rfl | (exfalso; simp at hl)
    have hl' : h₃.IsList X ys.toList.toArray := by simpa using hl
    clear hF hP hlen hpl hl hX hns hk
    refine wpAny_execs_cons (wpAny_If (cut (fun c _ => c = (numeric H || numeric D || (D.headD nilT != nilT))) ?_ ?_))
    · refine isTrue_or (wpAny_isTrue_Compare1 (ld F₃ rfl (List_ (args_nil (newL (fun e h₄ kp₄ _ he => ?_) (by show 0 ≤ 1000; omega))))))
      dsimp only at kp₄ ⊢
      have F₄ := F₃.keeps kp₄
      have hl₄ : h₄.IsList X ys.toList.toArray := let ⟨o, ho, q⟩ := hl'; ⟨o, kp₄ _ _ ho, q⟩
      refine ne_nil hl₄ he.isList (hu _) (wpAny_truthy_bool ?_)
      rw [hys, Bool.not_not]
      refine ite_b (fun h1 => ?_) fun h1 => ?_
      · exact ⟨_, _, rfl, kp₄, by rw [h1]; rfl⟩
      · obtain ⟨us, hus, hss⟩ := hb.keeps F₄.keep
        have hlt : 0 < us.length := by rw [hss.length]; omega
        obtain ⟨t0, e0⟩ := hss.getElem 0 hlt
        refine isTrue_or (wpAny_isTrue_Compare1 (Subscript_ (ld F₄ rfl (wpAny_Constant_int (list_item (v := .str (D.headD nilT) t0) hus (by omega) (by omega) ?_ (Constant_str (PyProof.Rows.ne_str (wpAny_truthy_bool ?_))))))))
        · show us.toArray[0]? = _
          rw [List.getElem?_toArray, List.getElem?_eq_getElem hlt, e0]
          congr 2
          cases D with
          | nil => simp at lD1
          | cons x r => rfl
        dsimp only
        refine ite_b (fun h2 => ?_) fun h2 => ?_
        · exact ⟨_, _, rfl, kp₄, by rw [h1]; exact h2.symm⟩
        · exact isTrue_or_nil ⟨_, _, rfl, kp₄, by rw [h1]; exact h2.symm⟩
    · rintro c h₅ k₅ rfl kp₅
      have F₅ := F₃.keeps kp₅
      dsimp only
      refine ite_b (fun hc => ?_) fun hc => ?_
      · have e : lawMatch H D = (H == D) := by unfold lawMatch; rw [if_pos hc]
        rw [e] at h
        obtain ⟨us, hus, hss⟩ := ha.keeps F₅.keep
        obtain ⟨ws, hws, hts⟩ := hb.keeps F₅.keep
        exact wpAny_execs_cons (wpAny_Return_some (wpAny_Compare1 (ld F₅ rfl (ld F₅ rfl (eq_strs hus hws hss hts (hu _) (h _ _ F₅.keep))))))
      · have e : lawMatch H D = (decide ((D.drop 1).length < H.length) && (H.drop (H.length - (D.drop 1).length) == D.drop 1)) := by unfold lawMatch; rw [hc, if_neg Bool.false_ne_true]
        rw [e] at h
        have hD2 : 2 ≤ D.length := lD3 (by
          have := (Bool.or_eq_false_iff.mp hc).2
          simpa using this)
        refine wpAny_execs_nil ?_
        dsimp only
        obtain ⟨ws, hws, hts⟩ := hb.keeps F₅.keep
        refine wpAny_execs_cons (wpAny_Assign_Name (slice_mine (ld F₅ rfl (wpAny_evalPart_some (wpAny_Constant_int (wpAny_evalPart_none ⟨b, ws.toArray, some 1, none, rfl, hws, ?_, .int _ _, .none, fun r h₆ kp₆ _ hr => ?_⟩))))))
        · rw [List.size_toArray, hts.length]; omega
        dsimp only at kp₆ ⊢
        have hw : 1 ≤ ws.toArray.size := by rw [List.size_toArray, hts.length]; omega
        rw [show (some (1 : Int)) = some ((1 : Nat) : Int) from rfl, slicePick_from _ 1 hw] at hr
        have hbs : StrsAre (ws.drop 1) (D.drop 1) := drop_strs hts 1
        have F₆ := F₅.keeps kp₆
        refine stS F₆ fun h₇ F₇ sb₇ => ?_
        have hr₇ : h₇.PlainList r (ws.drop 1).toArray := hr.extBut sb₇.extBut (ne_of_seq_ns hr F₆.ns)
        dsimp only at F₇ ⊢
        obtain ⟨us, hus, hss⟩ := ha.keeps F₇.keep
        have hzr : (ws.drop 1).toArray.size ≤ 1000 := by rw [List.size_toArray, hbs.length]; simp only [List.length_drop]; omega
        have hzu : us.toArray.size ≤ 1000 := by rw [List.size_toArray, hss.length]; omega
        have el : (decide (((ws.drop 1).toArray.size : Int) < (us.toArray.size : Nat))) = decide ((D.drop 1).length < H.length) := by
          rw [List.size_toArray, List.size_toArray, hbs.length, hss.length]
          exact decide_eq_decide.mpr Int.ofNat_lt
        refine wpAny_execs_cons (wpAny_Return_some (BoolOp_and (wpAny_Compare1 (Call_ (name_B F₇ G.X G.T (nsLen w) boot_len (by decide) (PyProof.Rows.callWith_builtin1 (args_cons (ld F₇ rfl (args_nil (len_call hus hzu fun t₁ k₁ => ?_))))))))))
        dsimp only
        refine Call_ (name_B F₇ G.X G.T (nsLen w) boot_len (by decide) (PyProof.Rows.callWith_builtin1 (args_cons (ld F₇ rfl (args_nil (len_call hr₇.isList hzr fun t₂ k₂ => PyProof.Rows.gt_int (wpAny_truthy_bool ?_)))))))
        dsimp only
        rw [el]
        refine ite_b (fun h1 => ?_) fun h1 => ?_
        · rw [h1, Bool.true_and] at h
          have h1' := of_decide_eq_true h1
          refine BoolOp_one (wpAny_Compare1 (slice_mine (ld F₇ rfl (wpAny_evalPart_some (UnaryOp_ (Call_ (name_B F₇ G.X G.T (nsLen w) boot_len (by decide) (PyProof.Rows.callWith_builtin1 (args_cons (ld F₇ rfl (args_nil (len_call hr₇.isList hzr fun t₃ k₃ => PyProof.Rows.neg_int (wpAny_evalPart_none ⟨a, us.toArray, some (-(((ws.drop 1).toArray.size : Nat) : Int)), none, rfl, hus, hzu, .int _ _, .none, fun r' h₈ kp₈ _ hr' => ?_⟩)))))))))))))
          dsimp only at kp₈ ⊢
          have hs0 : (ws.drop 1).toArray.size = D.length - 1 := by rw [List.size_toArray, hbs.length]; simp
          have hlu : us.toArray.size = H.length := by rw [List.size_toArray, hss.length]
          simp only [List.length_drop] at h1'
          rw [slicePick_neg _ _ (by omega) (by omega), hs0, hlu] at hr'
          have F₈ := F₇.keeps kp₈
          have hr₈ : h₈.PlainList r (ws.drop 1).toArray := hr₇.at fun o e => kp₈ _ o e
          refine ld F₈ rfl (eq_strs (vs := us.drop (H.length - (D.length - 1))) hr'.isList hr₈.isList (drop_strs hss _) hbs (hu _) ?_)
          rw [show (D.drop 1).length = D.length - 1 from List.length_drop] at h
          exact h _ _ F₈.keep
        · rw [h1, Bool.false_and] at h
          rw [h1]
          exact h _ _ F₇.keep
end Mine
end
section
open PySem PySem.W PyProof.Rows PySem.Calls
namespace Mine
inductive RowsAre (h : Heap) : List Value → List Lab → Prop
  | nil : RowsAre h [] []
  | cons {a : Addr} {L : Lab} {vs : List Value} {Ls : List Lab} : LstOf h a L → RowsAre h vs Ls → RowsAre h (.ref a :: vs) (L :: Ls)
theorem RowsAre.length {h vs Ls} (r : RowsAre h vs Ls) : vs.length = Ls.length := by
  induction r with
  | nil => rfl
  | cons _ _ ih => simp [ih]
theorem RowsAre.keeps {h h' vs Ls} (r : RowsAre h vs Ls) (k : Kp h h') : RowsAre h' vs Ls := by
  induction r with
  | nil => exact .nil
  | cons p _ ih => exact .cons (p.keeps k) ih
theorem RowsAre.get {h vs Ls} (r : RowsAre h vs Ls) : ∀ {i : Nat} {v : Value}, vs[i]? = some v → ∃ a L, Ls[i]? = some L ∧ v = .ref a ∧ LstOf h a L := by
  induction r with
  | nil => intro i v e; simp at e
  | cons p _ ih =>
    intro i v e
    cases i with
    | zero => simp at e; exact ⟨_, _, by simp, e.symm, p⟩
    | succ i => simp at e; obtain ⟨a, L, h1, h2, h3⟩ := ih e; exact ⟨a, L, by simpa using h1, h2, h3⟩
def RowsAt (h : Heap) (r : Addr) (Ls : List Lab) : Prop := ∃ vs, h.PlainList r vs.toArray ∧ RowsAre h vs Ls
theorem RowsAt.keeps {h h' : Heap} {r Ls} (p : RowsAt h r Ls) (k : Kp h h') : RowsAt h' r Ls := let ⟨vs, t, q⟩ := p; ⟨vs, t.at fun o e => k _ o e, q.keeps k⟩
theorem walk_all {vs us : List Value} (hl : vs.length = us.length) (hP : ∀ (j : Nat) (v : Value), vs[j]? = some v → us[j]? = some v) : vs = us := by
  apply List.ext_getElem? 
  intro j
  cases e : vs[j]? with
  | some v => exact (hP j v e).symm
  | none =>
    have := List.getElem?_eq_none_iff.mp e
    exact (List.getElem?_eq_none_iff.mpr (by omega)).symm
theorem strs_values {vs : List Value} {xs : List Str} (h : StrsAre vs xs) : ∃ l, vs = strValues l ∧ l.map (·.1) = xs := by
  induction h with
  | nil => exact ⟨[], rfl, rfl⟩
  | @cons x t _ _ _ ih => obtain ⟨l, h1, h2⟩ := ih; exact ⟨(x, t) :: l, by rw [h1]; rfl, by rw [← h2]; rfl⟩
theorem join_ok : ∀ L ∈ allL, JoinOk dot L = true := by decide +kernel
theorem dom_small {L : Lab} (h : L ∈ allL) : (dom L).length < 1000 := by
  have hd : dom L = ⟨(join L).cps.map swC⟩ := swap_map _ (join_sg' h)
  have := join_small L h
  rw [hd]
  show ((join L).cps.map swC).size < 1000
  rw [Array.size_map]
  unfold signs at this
  rw [Array.length_toList] at this
  omega
/-- '.'.join(labels) -/
theorem join_call {w : World} {A : Around} {s : Shared} {E : Value → Shared → Prop} {Q : Value → Shared → Prop} {a : Addr} {L : Lab} {t : Tok} (hl : LstOf s.heap a L) (hL : L ∈ allL) (h : ∀ t k, Q (.str (join L) t) { s with toks := k }) :
    wpAny (model PR w) A (call (.builtin "str.join") [.str (Str.ofString ".") t, .ref a]) Q E s := by
  obtain ⟨vs, hp, hs⟩ := hl
  obtain ⟨l, rfl, e⟩ := strs_values hs
  exact SC.join hp e (join_ok L hL) h
theorem paired_texts {h : Heap} {vs : List Value} {Ls : List Lab} (r : RowsAre h vs Ls) : ∀ {ys : List Value}, Paired (fun v y => ∃ a L t, v = .ref a ∧ LstOf h a L ∧ y = .str (dom L) t) vs ys → StrsAre ys (Ls.map dom) := by
  induction r with
  | nil => intro ys p; cases p; exact .nil
  | cons q _ ih =>
    intro ys p
    cases p with
    | cons f p =>
      obtain ⟨a', L', t, e, q', rfl⟩ := f
      cases e
      rw [q.inj q']
      exact .cons (ih p)
set_option maxHeartbeats 4000000 in
theorem texts_call {w : World} {mg mb} {A : Around} {s : Shared} {Q : Value → Shared → Prop} {E : Value → Shared → Prop} {r : Addr} {Ls : List Lab}
    (G : Gd w mg mb s.heap) (hA : Room 1 A) (hr : RowsAt s.heap r Ls) (hLs : ∀ L ∈ Ls, L ∈ allL) (hz : Ls.length ≤ 1000)
    (h : ∀ t h' k, Kp s.heap h' → s.heap.get? t = none → TupOf h' t (Ls.map dom) → Q (.ref t) { s with heap := h', toks := k }) :
    wpAny (model PR w) A (call (.ref 286) [.ref r]) Q E s := by
  refine' entry (binds := [(Str.ofString "rows", .ref r)]) G hA.dd ?ho ?hcd (BindsTo.of_eq ?hb) ?hcell ?hloc ?kh ?c1 ?c2 ?c3
  case ho => k_is
  case hcd => k_is
  case hb => exact rfl
  case hcell => decide
  case hloc => exact locs rfl
  case c1 => exact rfl
  case c2 => exact rfl
  case c3 => exact rfl
  intro h₁ F
  obtain ⟨vs, hv, hrows⟩ := hr.keeps F.keep
  refine wpAny_execs_cons (wpAny_Return_some (Call_ (name_B F G.X G.T (nsTuple w) boot_tuple (by decide) (callWith_type1 (args_cons (wpAny_ListComp_walk (fun _ => true) (fun v y => ∃ a L t, v = .ref a ∧ LstOf h₁ a L ∧ y = .str (dom L) t) ?hfree ?hcell ?hkind ?hnames ?hx ?hh ?hs))))))
  case hfree => decide
  case hcell => decide
  case hkind => rfl
  case hnames => decide
  case hx => rfl
  case hs => intro _; rfl
  refine ld F rfl (wpAny_pyIter_list hv.isList ?_)
  dsimp only
  have hI : s.heap.get? h₁.objs.size = none := none_at_size F.keep
  have hrlt : r < h₁.objs.size := let ⟨_, e⟩ := hv; Heap.lt_size e
  have hlen : vs.toArray.size = Ls.length := by rw [List.size_toArray, hrows.length]
  refine ⟨h₁.objs.size, [h₁.objs.size, r], [h₁.objs.size], _, _, _, rfl, Walks.list (by exact hA.hh) _ r (Nat.ne_of_lt hrlt) vs.toArray, by have := sizeLine_eq; omega, ⟨⟨_, Heap.get?_push_size _ rfl, rfl, rfl⟩, (hv.at fun o e => Heap.get?_push_of_some _ e).isList⟩, ?_, ⟨?_, ?_⟩, ?_⟩
  · intro b hb
    rw [Heap.size_push]
    rcases List.mem_cons.mp hb with e | hb
    · rw [e]; exact Nat.lt_succ_self _
    · rw [List.mem_singleton.mp hb]; exact Nat.lt_succ_of_lt hrlt
  · intro C i v s₃ m₃ E' hP hn hm hk htk
    exact wpAny_pure ⟨rfl, _, s₃.toks, rfl, Kp.rfl⟩
  · intro C i v s₃ m₃ E' hP _ hn hm hk htk
    have kp₃ : Kp h₁ s₃.heap := fun b o e => hk b o (fun hb => by rw [List.mem_singleton.mp hb] at e; exact absurd (Heap.lt_size e) (Nat.lt_irrefl _)) (Heap.get?_push_of_some _ e)
    obtain ⟨a, L, hLi, rfl, hal⟩ := hrows.get (i := i) (v := v) (by simpa using hP)
    have hL : L ∈ allL := hLs L (List.mem_of_getElem? hLi)
    refine MethodCall_ (MethodCall_ (Constant_str (GM.join (callWith_method1 (args_cons (nmL hn hm (args_nil (join_call (hal.keeps kp₃) hL fun t k => ?_))))))))
    dsimp only
    refine GM.swapcase (callWith_method0 (SC.swapcase (short (dom_small hL)) ?_))
    exact ⟨⟨a, L, _, rfl, hal, rfl⟩, _, _, rfl, Kp.rfl⟩
  · intro X h₃ k₃ ys us hX hl hpl hlen' hP hF hk
    have hus : us = vs := walk_all (by simpa using hlen') (fun j v e => by simpa using hP j v e)
    subst hus
    have kp₃ : Kp h₁ h₃ := fun b o e => hk b o (fun hb => by rw [List.mem_singleton.mp hb] at e; exact absurd (Heap.lt_size e) (Nat.lt_irrefl _)) (Heap.get?_push_of_some _ e)
    have hf : us.filter (fun _ => true) = us := List.filter_eq_self.mpr fun _ _ => rfl
    rw [hf] at hF
    have hst := paired_texts hrows hF
    refine args_nil (tuple_call (xs := Ls.map dom) ⟨ys.toList, by simpa using hpl.isList, hst⟩ (by simpa using hz) fun t h₄ kp₄ hnew ht => ?_)
    exact h t h₄ k₃ (Kp.trans F.keep (Kp.trans kp₃ kp₄)) (old_none (Kp.trans F.keep kp₃) hnew) ht
end Mine
end
section
open PySem PySem.W PyProof.Rows PySem.Calls
namespace Mine
/-- all but iterators are kept -/
abbrev KpX (h h' : Heap) : Prop := ∀ b o, o.cls ≠ .type "list_iterator" → o.cls ≠ .type "tuple_iterator" → h.get? b = some o → h'.get? b = some o
theorem for_walk2 {w : World} {A : Around} {s : Shared} {env : Env} {target : Expr} {body : List Stmt} {I : Addr} {fp wr : List Addr} {n : Nat} {P : Nat → Value → Prop} {St : Nat → Heap → Prop} {Q : Flow → Shared → Prop} {R : Result → Shared → Prop}
    (W : Walks PR w A I fp wr n P St) (J : Nat → Shared → Prop) (hst : St 0 s.heap) (hJ : J 0 s)
    (turn : ∀ i v s₁ h' tk, i < n → P i v → J i s₁ → St i s₁.heap → KpB wr s₁.heap h' →
      wpAny (model PR w) A (assign target env v) (fun _ s₃ => wpAny (model PR w) A (execs body env) (fun f s₄ => match f with
        | .next => J (i + 1) s₄ ∧ KpF fp h' s₄.heap
        | .cont => J (i + 1) s₄ ∧ KpF fp h' s₄.heap
        | .brk => Q .next s₄
        | .ret v => Q (.ret v) s₄) NoE s₃) NoE { s₁ with heap := h', toks := tk })
    (done : ∀ s₁ h' tk, J n s₁ → St n s₁.heap → KpB wr s₁.heap h' → Q .next { s₁ with heap := h', toks := tk })
    (hR : ∀ f s', Q f s' → R (.ok f) s')
    (ht : ∀ v, letOwnedTupleGo target (.ref I) v = pure ()) :
    codeAny (model PR w) A (.forLoop target (.ref I) body [] env) R s := by
  refine codeAny_forLoop (fun k s' => ∃ i, i ≤ n ∧ k = n - i ∧ J i s' ∧ St i s'.heap) ?_ n ⟨0, Nat.zero_le _, by omega, hJ, hst⟩ ht
  rintro k s₁ ⟨i, hi, rfl, hJi, hsti⟩
  by_cases hlt : i < n
  · refine W.item i s₁ _ _ hlt hsti fun v h' tk hP hst' hk => ?_
    refine wpAny_mono (turn i v s₁ h' tk hlt hP hJi hsti hk) (fun _ s₃ h₃ => wpAny_mono h₃ (fun f s₄ h₄ => ?_) fun _ _ x => x.elim) fun _ _ x => x.elim
    cases f with
    | next => exact ⟨n - (i + 1), by omega, i + 1, hlt, rfl, h₄.1, W.frame _ _ _ hst' h₄.2⟩
    | cont => exact ⟨n - (i + 1), by omega, i + 1, hlt, rfl, h₄.1, W.frame _ _ _ hst' h₄.2⟩
    | brk => exact hR _ _ h₄
    | ret v => exact hR _ _ h₄
  · obtain rfl : i = n := by omega
    refine W.done s₁ _ _ hsti fun h' tk hk => ?_
    exact wpAny_execs_nil (hR _ _ (done s₁ h' tk hJi hsti hk))
/-- a loop over a tuple or a list that the body leaves alone -/
theorem for_seqG {w : World} {A : Around} {s : Shared} {env : Env} {target : Expr} {body : List Stmt} {Q : Flow → Shared → Prop} {R : Result → Shared → Prop} {E : Value → Shared → Prop} {ax : Addr} {items : Array Value}
    (hh : A.handled = none) (ht : SeqAt s.heap ax items) (wr : List Addr) (hwr : ∀ b ∈ wr, b < s.heap.objs.size ∧ b ≠ ax)
    (J : Nat → Shared → Prop) (hJ : J 0 s)
    (keep : ∀ i s₁ I h' tk, J i s₁ → s.heap.get? I = none → KpB [I] s₁.heap h' → KpX s₁.heap h' → J i { s₁ with heap := h', toks := tk })
    (turn : ∀ i v s₁, items[i]? = some v → J i s₁ → wpAny (model PR w) A (assign target env v) (fun _ s₃ => wpAny (model PR w) A (execs body env) (fun f s₄ => match f with
        | .next => J (i + 1) s₄ ∧ KpB wr s₁.heap s₄.heap
        | .cont => J (i + 1) s₄ ∧ KpB wr s₁.heap s₄.heap
        | .brk => Q .next s₄
        | .ret v => Q (.ret v) s₄) NoE s₃) NoE s₁)
    (done : ∀ s₁, J items.size s₁ → Q .next s₁) (hR : ∀ f s', Q f s' → R (.ok f) s')
    (htg : ∀ I v, letOwnedTupleGo target (.ref I) v = pure () := by intro _ _; rfl) :
    wpAny (model PR w) A (pyIter (.ref ax)) (fun it s₂ => codeAny (model PR w) A (.forLoop target it body [] env) R s₂) E s := by
  have hIn : s.heap.get? s.heap.objs.size = none := none_at_size Kp.rfl
  have hax : ax < s.heap.objs.size := ht.lt
  have key : ∀ (o : Obj) (St : Nat → Heap → Prop), Walks PR w A s.heap.objs.size [s.heap.objs.size, ax] [s.heap.objs.size] items.size (fun i v => items[i]? = some v) St → St 0 (s.heap.push o) →
      (∀ i h, St i h → ∃ o, h.get? s.heap.objs.size = some o ∧ (o.cls = .type "list_iterator" ∨ o.cls = .type "tuple_iterator")) →
      codeAny (model PR w) A (.forLoop target (.ref s.heap.objs.size) body [] env) R { s with heap := s.heap.push o } := by
    intro o St W hst hit
    have kx : ∀ i h h', St i h → KpB [s.heap.objs.size] h h' → KpX h h' := by
      intro i h h' st kp b ob n1 n2 e
      refine kp b ob (fun hb => ?_) e
      rw [List.mem_singleton.mp hb] at e
      obtain ⟨o', e', hc⟩ := hit i h st
      rw [e] at e'
      cases e'
      exact hc.elim n1 n2
    refine for_walk2 W J hst (keep 0 s s.heap.objs.size _ s.toks hJ hIn (fun b o _ e => Heap.get?_push_of_some _ e) fun b o _ _ e => Heap.get?_push_of_some _ e) ?_ ?_ hR (htg _)
    · intro i v s₁ h' tk hi hv hJi hsti kp
      refine wpAny_mono (turn i v _ hv (keep i s₁ _ h' tk hJi hIn kp (kx i _ _ hsti kp))) (fun _ s₃ h₃ => wpAny_mono h₃ (fun f s₄ h₄ => ?_) fun _ _ e => e) fun _ _ e => e
      have fin : J (i + 1) s₄ ∧ KpB wr h' s₄.heap → J (i + 1) s₄ ∧ KpF [s.heap.objs.size, ax] h' s₄.heap := by
        rintro ⟨a, b⟩
        refine ⟨a, fun c hc o e => b c o (fun hm => ?_) e⟩
        obtain ⟨h1, h2⟩ := hwr c hm
        rcases List.mem_cons.mp hc with q | hc
        · rw [q] at h1; exact Nat.lt_irrefl _ h1
        · exact h2 (List.mem_singleton.mp hc)
      cases f with
      | next => exact fin h₄
      | cont => exact fin h₄
      | brk => exact h₄
      | ret v => exact h₄
    · intro s₁ h' tk hJn hst kp
      exact done _ (keep _ s₁ _ h' tk hJn hIn kp (kx _ _ _ hst kp))
  rcases ht with hs | hs
  · refine wpAny_pyIter_tuple hs (key _ _ (Walks.tuple hh _ ax (Nat.ne_of_lt hax) items) ⟨⟨_, Heap.get?_push_size _ rfl, rfl, rfl⟩, ?_⟩ ?_)
    · exact let ⟨o, ho, q⟩ := hs; ⟨o, Heap.get?_push_of_some _ ho, q⟩
    · rintro i h ⟨⟨o, ho, hc, _⟩, _⟩
      exact ⟨o, ho, .inr hc⟩
  · refine wpAny_pyIter_list hs (key _ _ (Walks.list hh _ ax (Nat.ne_of_lt hax) items) ⟨⟨_, Heap.get?_push_size _ rfl, rfl, rfl⟩, ?_⟩ ?_)
    · exact let ⟨o, ho, q⟩ := hs; ⟨o, Heap.get?_push_of_some _ ho, q⟩
    · rintro i h ⟨⟨o, ho, hc, _⟩, _⟩
      exact ⟨o, ho, .inl hc⟩
/-- a frame with one cell, right behind its names -/
structure FC (base : Heap) (h : Heap) (m : Str → Option Value) (v : Option Value) : Prop where
  F : Fr base base.objs.size h m
  c : h.IsCell (base.objs.size + 1) v
theorem FC.n {base h m v} (_ : FC base h m v) : base.get? (base.objs.size + 1) = none := Heap.get?_none_of_le (Nat.le_succ _)
theorem FC.keeps {base h h' : Heap} {m v} (X : FC base h m v) (k : Kp h h') : FC base h' m v := ⟨X.F.keeps k, X.c.keeps k⟩
theorem FC.step {base h h' : Heap} {m v} {I : Addr} (X : FC base h m v) (n : ∃ h₀ : Heap, h₀.get? I = none ∧ Kp base h₀ ∧ (∃ m v, FC base h₀ m v)) (k : KpB [I] h h') : FC base h' m v := by
  obtain ⟨h₀, n, kb, m', v', X'⟩ := n
  refine ⟨Fr.step X.F k (fun b hb => by rw [List.mem_singleton.mp hb]; exact old_none kb n) (fun hb => ne_new_ns X'.F.ns n (List.mem_singleton.mp hb)), ?_⟩
  obtain ⟨o, e, d⟩ := X.c
  obtain ⟨o', e', _⟩ := X'.c
  exact ⟨o, k _ _ (fun hb => ne_of_new e' n (List.mem_singleton.mp hb)) e, d⟩
section
variable {M : Model} {A : Around} {E : Value → Shared → Prop} {s : Shared} {name : Str} {scope : Scope} {a : Addr} {cd : Value} {base : Heap} {m : Str → Option Value} {x : Str} {v : Value} {cv : Option Value}
theorem stFC {Q : Unit → Shared → Prop} (X : FC base s.heap m cv)
    (h : ∀ h', FC base h' (fun y => if y = x then some v else m y) cv → KpB [base.objs.size, base.objs.size + 1] s.heap h' → Q () { s with heap := h', toks := s.toks + 1 })
    (hk : scope.kind = .function := by rfl) (hl : (envOfC name scope base.objs.size a cd).kindOf x = some .local := by rfl) :
    wpAny M A (storeName (envOfC name scope base.objs.size a cd) x v) Q E s :=
  wpAny_storeName_local hl X.F.ns (fun h' hn hs => h h' ⟨X.F.set hn hs, X.c.sameBut hs (Nat.succ_ne_self _)⟩ (fun b o hb e => hs.extBut b o (fun q => hb (by rw [q]; exact .head _)) e))
    (by show (scope.kind == .class || (scope.kind == .module && base.objs.size != mainGlobals)) = false; rw [hk]; rfl)
theorem stFCc {Q : Unit → Shared → Prop} (X : FC base s.heap m cv)
    (h : ∀ h', FC base h' m (some v) → KpB [base.objs.size, base.objs.size + 1] s.heap h' → Q () { s with heap := h' })
    (hc : (envOfC name scope base.objs.size a cd).cells.lookup x = some (base.objs.size + 1) := by rfl)
    (hk : scope.kind = .function := by rfl) (hl : (envOfC name scope base.objs.size a cd).kindOf x = some .cell := by rfl) :
    wpAny M A (storeName (envOfC name scope base.objs.size a cd) x v) Q E s := by
  refine wpAny_storeName_cell hk hl hc X.c fun h' hv hs => h h' ⟨⟨X.F.ns.sameBut hs (Nat.succ_ne_self _).symm, fun b o e => hs.extBut b o (fun q => ?_) (X.F.keep b o e), X.F.above⟩, hv⟩ (fun b o hb e => hs.extBut b o (fun q => hb (by rw [q]; exact .tail _ (.head _))) e)
  have := Heap.lt_size e
  rw [q] at this
  exact absurd this (Nat.not_lt.mpr (Nat.le_succ _))
theorem ldFCc {px : Pos} {Q : Value → Shared → Prop} (X : FC base s.heap m (some v)) (h : Q v s)
    (hc : (envOfC name scope base.objs.size a cd).cells.lookup x = some (base.objs.size + 1) := by rfl)
    (hk : scope.kind = .function := by rfl) (hl : (envOfC name scope base.objs.size a cd).kindOf x = some .cell := by rfl) (hd : (x == ("__debug__" : Str)) = false := by decide) :
    wpAny M A (eval (.Name x px) (envOfC name scope base.objs.size a cd)) Q E s := wpAny_Name (wpAny_loadName_cell hk hl hc X.c h) hd
end
theorem entryC {w : World} {mg mb} {A : Around} {s : Shared} {Q : Value → Shared → Prop} {E : Value → Shared → Prop} {f : Addr}
    {oc : Value} {od : Option Addr} {osl : Array (Option Value)} {name qual : Str} {params : Arguments} {body : List Stmt} {scope : Scope} {dV kV doc pm cdv ct : Value} {an : Option Addr} {pos : List Value} {binds : List (Str × Value)} {cn : Str}
    (G : Gd w mg mb s.heap) (hA : A.depth < recursionLimit)
    (ho : (hd.heap_39 w.params).lookup f = some ⟨oc, od, .func (fnOf name qual params body scope dV kV doc pm an cdv ct), osl⟩)
    (hcd : codeIn (hd.heap_39 w.params) cdv qual = true)
    (hbind : bindArgs (fnOf name qual params body scope dV kV doc pm an cdv ct) ⟨pos, []⟩ = pure binds)
    (hloc : ∀ x ∈ binds, scope.names.lookup x.1 = some .local)
    (hc : (cellsFrom (s.heap.objs.size + 1) scope.names []).lookup cn = some (s.heap.objs.size + 1))
    (hcv : bindC (envOfC qual scope s.heap.objs.size f cdv).kindOf binds (fun _ => none) cn = none)
    (h : ∀ h₁ k, FC s.heap h₁ (bindL (envOfC qual scope s.heap.objs.size f cdv).kindOf binds fun _ => none) none →
      wpAny (model PR w) (A.deeper (envOfC qual scope s.heap.objs.size f cdv)) (execs body (envOfC qual scope s.heap.objs.size f cdv))
        (fun fl s' => Q (match fl with | .ret v => v | _ => .none) s') (fun _ _ => False) { s with heap := h₁, toks := k })
    (hco : scope.isCoroutine = false := by rfl) (hgen : scope.isGenerator = false := by rfl) (hk : scope.kind = .function := by rfl) :
    wpAny (model PR w) A (call (.ref f) pos []) Q E s := by
  refine wpAny_call ?_
  refine codeAny_call_cells (fd := fnOf name qual params body scope dV kV doc pm an cdv ct) (body := body) (binds := binds) hA (G.X _ _ ho) rfl G.T.nolimit (codeRec_of G.X hcd) rfl hbind rfl (fun x hx => .inl (hloc x hx)) (fun s₁ X => ?_) hco hgen hk
  obtain ⟨h₁, tk, rfl, _⟩ := X.done
  have hcell := X.cell cn _ hc
  exact wpAny_mono (h h₁ tk ⟨⟨X.toInCall.ns, X.toInCall.keep, X.toInCall.fresh⟩, by rw [← hcv]; exact hcell⟩) (fun _ _ x => x) (fun _ _ x => x.elim)
end Mine
end
section
open PySem PySem.W PyProof.Rows PySem.Calls
namespace Mine
section
variable (w : World)
theorem kp122 : keepIn (hd.heap_39 w.params) (.ref 122) = true := by k_is
theorem kp136 : keepIn (hd.heap_39 w.params) (.ref 136) = true := by k_is
theorem kp143 : keepIn (hd.heap_39 w.params) (.ref 143) = true := by k_is
theorem kp157 : keepIn (hd.heap_39 w.params) (.ref 157) = true := by k_is
theorem pg122 : plainGet (hd.heap_39 w.params) 272 (Str.ofString "blocked_domains") = true := by k_is
theorem pg136 : plainGet (hd.heap_39 w.params) 272 (Str.ofString "is_blocked") = true := by k_is
theorem pg143 : plainGet (hd.heap_39 w.params) 272 (Str.ofString "allowed_domains") = true := by k_is
theorem pg157 : plainGet (hd.heap_39 w.params) 272 (Str.ofString "is_not_allowed") = true := by k_is
theorem fi122 : findIn (hd.heap_39 w.params) (.ref 272) (Str.ofString "blocked_domains") = some (some (.ref 122)) := by k_is
theorem fi136 : findIn (hd.heap_39 w.params) (.ref 272) (Str.ofString "is_blocked") = some (some (.ref 136)) := by k_is
theorem fi143 : findIn (hd.heap_39 w.params) (.ref 272) (Str.ofString "allowed_domains") = some (some (.ref 143)) := by k_is
theorem fi157 : findIn (hd.heap_39 w.params) (.ref 272) (Str.ofString "is_not_allowed") = some (some (.ref 157)) := by k_is
theorem if122 : isFn (hd.heap_39 w.params) (.ref 122) = true := by k_is
theorem if136 : isFn (hd.heap_39 w.params) (.ref 136) = true := by k_is
theorem if143 : isFn (hd.heap_39 w.params) (.ref 143) = true := by k_is
theorem if157 : isFn (hd.heap_39 w.params) (.ref 157) = true := by k_is
end
/-- a method of the policy, fetched -/
theorem meth {w : World} {mg mb} {A : Around} {s : Shared} {E : Value → Shared → Prop} {base : Heap} {L x dx f : Addr} {m : Str → Option Value} {bt al : Value} {name : Str} {pl : Sem Bool} {Q : Value × List Value → Shared → Prop}
    (G : Gd w mg mb base) (F : Fr base L s.heap m) (p : PolAt s.heap x dx bt al) (pg : plainGet (hd.heap_39 w.params) 272 name = true) (fi : findIn (hd.heap_39 w.params) (.ref 272) name = some (some (.ref f)))
    (isf : isFn (hd.heap_39 w.params) (.ref f) = true) (hm : name ∈ meths) (h : Q (.ref f, [.ref x]) s) : wpAny (model PR w) A (getMethod (.ref x) name pl) Q E s := by
  obtain ⟨es, n, h1, h2, h3, h4, h5, h6⟩ := p
  exact method_inst F G.X ⟨h1, rfl, rfl, h2⟩ pg fi isf (h6 name hm) h
open Classical in
/-- a label list of the heap that the law's match takes -/
noncomputable def pM (h : Heap) (H : Lab) : Value → Bool := fun v => decide (∃ a L, v = .ref a ∧ LstOf h a L ∧ lawMatch H L = true)
open Classical in
theorem pM_eq {h : Heap} {H L : Lab} {a : Addr} (p : LstOf h a L) : pM h H (.ref a) = lawMatch H L := by
  unfold pM
  cases e : lawMatch H L with
  | true => exact decide_eq_true ⟨a, L, rfl, p, e⟩
  | false =>
    refine decide_eq_false ?_
    rintro ⟨a', L', e1, p', e2⟩
    cases e1
    rw [p.inj p', e2] at e
    cases e
theorem rows_filter {h : Heap} {H : Lab} {vs : List Value} {Ls : List Lab} (r : RowsAre h vs Ls) : (vs.filter (pM h H)).isEmpty = !(Ls.any (lawMatch H)) := by
  induction r with
  | nil => rfl
  | cons p _ ih =>
    rw [List.filter_cons, pM_eq p, List.any_cons]
    cases lawMatch H _ with
    | true => rfl
    | false => simpa using ih
theorem isEmpty_len {α β : Type} {xs : List α} {ys : List β} (h : xs.length = ys.length) : ys.isEmpty = xs.isEmpty := by
  cases xs <;> cases ys <;> first | rfl | simp at h
set_option maxHeartbeats 2000000 in
/-- [one for one in rows if _law_match(host, one)] -/
theorem match_comp {w : World} {mg mb} {A : Around} {s : Shared} {E : Value → Shared → Prop} {Q : Value → Shared → Prop} {base : Heap} {name : Str} {scope : Scope} {fa c r : Addr} {cd : Value} {m : Str → Option Value}
    {it : Str} {sc : Scope} {H : Lab} {Ls : List Lab} {p1 p2 p3 p4 p5 p6 p7 p8 : Pos}
    (G : Gd w mg mb base) (X : FC base s.heap m (some (.ref c))) (hA : Room 1 A) (hc : LstOf s.heap c H) (hH : H ∈ allL) (hm : m it = some (.ref r)) (hr : RowsAt s.heap r Ls) (hLs : ∀ L ∈ Ls, L ∈ allL) (hz : Ls.length ≤ 1000)
    (h : ∀ D h' k us, Kp s.heap h' → s.heap.get? D = none → h'.IsList D (us : List Value).toArray → us.isEmpty = !(Ls.any (lawMatch H)) → Q (.ref D) { s with heap := h', toks := k })
    (hclos : closureFor sc (envOfC name scope base.objs.size fa cd) = pure [(Str.ofString "host", base.objs.size + 1)])
    (hcell : ∀ y ∈ sc.names, y.2 ≠ .cell) (hkind : sc.kind = .function)
    (hnames : ∀ y ∈ sc.names, y.2 = .local → sc.names.lookup y.1 = some .local) (hx : sc.names.lookup (Str.ofString "one") = some .local)
    (hk : scope.kind = .function) (hl : (envOfC name scope base.objs.size fa cd).kindOf it = some .local) (hd : (it == ("__debug__" : Str)) = false)
    (k1 : ∀ C, (compEnvC sc [(Str.ofString "host", base.objs.size + 1)] C (envOfC name scope base.objs.size fa cd)).kindOf (Str.ofString "host") = some .cell)
    (k2 : ∀ C, (compEnvC sc [(Str.ofString "host", base.objs.size + 1)] C (envOfC name scope base.objs.size fa cd)).kindOf (Str.ofString "one") = some .local)
    (k3 : ∀ C, (compEnvC sc [(Str.ofString "host", base.objs.size + 1)] C (envOfC name scope base.objs.size fa cd)).kindOf (Str.ofString "_law_match") = some .globalImplicit)
    (hs : ∀ x, foldedSetIterable (.Name it p3) (envOfC name scope base.objs.size fa cd) x = pure x) :
    wpAny (model PR w) A (eval (.ListComp (.Name (Str.ofString "one") p1) [⟨.Name (Str.ofString "one") p2, .Name it p3, [.Call (.Name (Str.ofString "_law_match") p4) [.Name (Str.ofString "host") p5, .Name (Str.ofString "one") p6] [] p7], 0⟩] sc p8) (envOfC name scope base.objs.size fa cd)) Q E s := by
  refine wpAny_ListComp_free (pM s.heap H) (fun v y => y = v) hclos hcell hkind hnames hx (nmL X.F.ns hm ?_ hk hl hd) hs
  obtain ⟨vs, hv, hrows⟩ := hr
  refine wpAny_pyIter_list hv.isList ?_
  dsimp only
  have hI : s.heap.get? s.heap.objs.size = none := none_at_size Kp.rfl
  have hrlt : r < s.heap.objs.size := let ⟨_, e⟩ := hv; Heap.lt_size e
  have hlen : vs.toArray.size = Ls.length := by rw [List.size_toArray, hrows.length]
  refine ⟨s.heap.objs.size, [s.heap.objs.size, r], [s.heap.objs.size], _, _, _, rfl, Walks.list hA.hh _ r (Nat.ne_of_lt hrlt) vs.toArray, by have := sizeLine_eq; omega, ⟨⟨_, Heap.get?_push_size _ rfl, rfl, rfl⟩, (hv.at fun o e => Heap.get?_push_of_some _ e).isList⟩, ?_, ⟨?_, ?_⟩, ?_⟩
  · intro b hb
    rw [Heap.size_push]
    rcases List.mem_cons.mp hb with e | hb
    · rw [e]; exact Nat.lt_succ_self _
    · rw [List.mem_singleton.mp hb]; exact Nat.lt_succ_of_lt hrlt
  · intro C i v s₃ m₃ E' _ hP hn hm₃ hk₃ htk
    have kp₃ : Kp s.heap s₃.heap := fun b o e => hk₃ b o (fun hb => by rw [List.mem_singleton.mp hb] at e; exact absurd (Heap.lt_size e) (Nat.lt_irrefl _)) (Heap.get?_push_of_some _ e)
    have G₃ := G.keeps (Kp.trans X.F.keep kp₃)
    obtain ⟨a, L, hLi, rfl, hal⟩ := hrows.get (i := i) (v := v) (by simpa using hP)
    have hL : L ∈ allL := hLs L (List.mem_of_getElem? hLi)
    refine test_one (isTrue_plain (Call_ (nmG G₃ (nsMatch w) (callWith_K G.X (kp291 w) (args_cons (wpAny_Name (wpAny_loadName_cell hkind (k1 C) (c := base.objs.size + 1) rfl (X.c.keeps kp₃) (args_cons (nmL hn hm₃ (args_nil ⟨G₃.X, ?_⟩) hkind (k2 C)))) (by decide)))) rfl hkind (k3 C))))
    refine match_call G₃ hA (hc.keeps kp₃) (hal.keeps kp₃) hH hL fun h₄ k₄ kp₄ => wpAny_truthy_bool ?_
    exact ⟨(pM_eq hal).symm, h₄, k₄, rfl, kp₄⟩
  · intro C i v s₃ m₃ E' _ hP _ hn hm₃ hk₃ htk
    exact nmL hn hm₃ ⟨rfl, _, s₃.toks, rfl, Kp.rfl⟩ hkind (k2 C)
  · intro D h₃ k₃ ys us hD hl₃ hpl hlen' hP hF hk₃
    have hus : us = vs := walk_all (by simpa using hlen') (fun j v e => by simpa using hP j v e)
    subst hus
    have kp₃ : Kp s.heap h₃ := fun b o e => hk₃ b o (fun hb => by rw [List.mem_singleton.mp hb] at e; exact absurd (Heap.lt_size e) (Nat.lt_irrefl _)) (Heap.get?_push_of_some _ e)
    refine h D h₃ k₃ ys.toList kp₃ (old_none (fun b o e => Heap.get?_push_of_some _ e) hD) (by simpa using hl₃) ?_
    rw [isEmpty_len hF.length]
    exact rows_filter hrows
set_option maxHeartbeats 2000000 in
/-- [one for one in told if not isinstance(one, bool)] -/
theorem bools_comp {w : World} {mg mb} {A : Around} {s : Shared} {E : Value → Shared → Prop} {Q : Value → Shared → Prop} {base : Heap} {env : Env} {t : Addr} {m : Str → Option Value}
    {it : Str} {sc : Scope} {b1 b2 : Bool} {p1 p2 p3 p4 p5 p6 p7 p8 p9 : Pos}
    (G : Gd w mg mb base) (kb : Kp base s.heap) (hns : s.heap.Ns env.locals m) (hA : Room 1 A) (hm : m it = some (.ref t)) (ht : s.heap.get? t = some { cls := .type "tuple", data := .seq [Value.bool b1, .bool b2].toArray })
    (h : ∀ D h' k, Kp s.heap h' → s.heap.get? D = none → h'.IsList D ([] : List Value).toArray → Q (.ref D) { s with heap := h', toks := k })
    (hfree : ∀ y ∈ sc.names, y.2 ≠ .free) (hcell : ∀ y ∈ sc.names, y.2 ≠ .cell) (hkind : sc.kind = .function)
    (hnames : ∀ y ∈ sc.names, y.2 = .local → sc.names.lookup y.1 = some .local) (hx : sc.names.lookup (Str.ofString "one") = some .local)
    (hg : env.globals = mainGlobals) (hbn : env.builtins = builtinsNs) (hk : env.scope.kind = .function) (hl : env.kindOf it = some .local) (hd : (it == ("__debug__" : Str)) = false)
    (k2 : ∀ C, (compEnv sc C env).kindOf (Str.ofString "one") = some .local)
    (k3 : ∀ C, (compEnv sc C env).kindOf (Str.ofString "isinstance") = some .globalImplicit)
    (k4 : ∀ C, (compEnv sc C env).kindOf (Str.ofString "bool") = some .globalImplicit)
    (hs : ∀ x, foldedSetIterable (.Name it p3) env x = pure x) :
    wpAny (model PR w) A (eval (.ListComp (.Name (Str.ofString "one") p1) [⟨.Name (Str.ofString "one") p2, .Name it p3, [.UnaryOp .Not (.Call (.Name (Str.ofString "isinstance") p4) [.Name (Str.ofString "one") p5, .Name (Str.ofString "bool") p6] [] p7) p8], 0⟩] sc p9) env) Q E s := by
  refine wpAny_ListComp_walk (fun _ => false) (fun v y => y = v) hfree hcell hkind hnames hx (nmL hns hm ?_ hk hl hd) hs
  refine wpAny_pyIter_tuple ⟨_, ht, rfl, _, rfl⟩ ?_
  dsimp only
  have hI : s.heap.get? s.heap.objs.size = none := none_at_size Kp.rfl
  have htl : t < s.heap.objs.size := Heap.lt_size ht
  refine ⟨s.heap.objs.size, [s.heap.objs.size, t], [s.heap.objs.size], _, _, _, rfl, Walks.tuple hA.hh _ t (Nat.ne_of_lt htl) _, by show 2 ≤ sizeLine; have := sizeLine_eq; omega, ⟨⟨_, Heap.get?_push_size _ rfl, rfl, rfl⟩, ⟨_, Heap.get?_push_of_some _ ht, rfl, _, rfl⟩⟩, ?_, ⟨?_, ?_⟩, ?_⟩
  · intro b hb
    rw [Heap.size_push]
    rcases List.mem_cons.mp hb with e | hb
    · rw [e]; exact Nat.lt_succ_self _
    · rw [List.mem_singleton.mp hb]; exact Nat.lt_succ_of_lt htl
  · intro C i v s₃ m₃ E' hP hn hm₃ hk₃ htk
    have kp₃ : Kp s.heap s₃.heap := fun b o e => hk₃ b o (fun hb => by rw [List.mem_singleton.mp hb] at e; exact absurd (Heap.lt_size e) (Nat.lt_irrefl _)) (Heap.get?_push_of_some _ e)
    have G₃ := G.keeps (Kp.trans kb kp₃)
    have hv : ∃ b, v = .bool b := by
      rcases i with _ | _ | i
      · exact ⟨b1, by simpa using hP.symm⟩
      · exact ⟨b2, by simpa using hP.symm⟩
      · simp at hP
    obtain ⟨b, rfl⟩ := hv
    refine test_one (isTrue_not (isTrue_plain (Call_ (nmB G₃ (nsIsinst w) boot_isinstance (by decide) (PyProof.Rows.callWith_builtin1 (args_cons (nmL hn hm₃ (args_cons (nmB G₃ (nsBool w) boot_bool (by decide) (args_nil ?_) hg hbn hkind (k4 C))) hkind (k2 C)))) hg hbn hkind (k3 C)))))
    refine call_isinstance_yes (PyProof.Rows.typeIs_bool _ _) meta_bool sub_bool_bool (wpAny_truthy_bool ?_)
    exact ⟨rfl, _, _, rfl, Kp.rfl⟩
  · intro C i v s₃ m₃ E' _ hp
    cases hp
  · intro D h₃ k₃ ys us hD hl₃ hpl hlen' hP hF hk₃
    have kp₃ : Kp s.heap h₃ := fun b o e => hk₃ b o (fun hb => by rw [List.mem_singleton.mp hb] at e; exact absurd (Heap.lt_size e) (Nat.lt_irrefl _)) (Heap.get?_push_of_some _ e)
    have he : ys.toList = [] := by
      have := hF.length
      rw [List.filter_eq_nil_iff.mpr (by simp)] at this
      exact List.length_eq_zero_iff.mp this.symm
    refine h D h₃ k₃ kp₃ (old_none (fun b o e => Heap.get?_push_of_some _ e) hD) ?_
    rw [← he]
    simpa using hl₃
end Mine
end
section
open PySem PySem.W PyProof.Rows PySem.Calls
namespace Mine
def AvAt (h : Heap) (v : Value) : Option (List Lab) → Prop
  | none => v = .none
  | some As => ∃ r, v = .ref r ∧ RowsAt h r As ∧ As.length ≤ 1000
theorem AvAt.keeps {h h' : Heap} {v o} (p : AvAt h v o) (k : Kp h h') : AvAt h' v o := by
  cases o with
  | none => exact p
  | some As => obtain ⟨r, e, q, z⟩ := p; exact ⟨r, e, q.keeps k, z⟩
theorem ne_bools {w : World} {A : Around} {s : Shared} {E : Value → Shared → Prop} {Q : Value → Shared → Prop} {a b : Addr} {x y : Bool}
    (ha : s.heap.get? a = some { cls := .type "tuple", data := .seq [Value.bool x, .bool y].toArray }) (hb : s.heap.get? b = some { cls := .type "tuple", data := .seq [Value.bool x, .bool y].toArray }) (hu : A.units < cLine) (hQ : Q (.bool false) s) :
    wpAny (model PR w) A (compareOp .NotEq (.ref a) (.ref b)) Q E s := by
  refine cmp_ofNotEq (SeqAt.RcNeAt.tuples (e := fun _ => true) ⟨_, ha, rfl, _, rfl⟩ ⟨_, hb, rfl, _, rfl⟩ hu (fun j h1 h2 => ?_) PR w E Q ?_)
  · have h1 : j < 2 := h1
    rcases j with _ | _ | j
    · have := SeqAt.EqAt.bool_bool (A := A.in1) (s := s) x x
      rwa [beq_self_eq_true] at this
    · have := SeqAt.EqAt.bool_bool (A := A.in1) (s := s) y y
      rwa [beq_self_eq_true] at this
    · omega
  · exact hQ
/-- the names of the frame that the loop leaves alone -/
structure Lk (m : Str → Option Value) (x b : Addr) (av : Value) : Prop where
  p : m (Str.ofString "policy") = some (.ref x)
  b : m (Str.ofString "blocked") = some (.ref b)
  a : m (Str.ofString "allowed") = some av
theorem Lk.set {m : Str → Option Value} {x b : Addr} {av : Value} (k : Lk m x b av) {n : Str} {v : Value} (h1 : ¬ Str.ofString "policy" = n) (h2 : ¬ Str.ofString "blocked" = n) (h3 : ¬ Str.ofString "allowed" = n) :
    Lk (fun y => if y = n then some v else m y) x b av := ⟨(if_neg h1).trans k.p, (if_neg h2).trans k.b, (if_neg h3).trans k.a⟩
set_option maxHeartbeats 8000000 in
theorem holds_call {w : World} {mg mb} {A : Around} {s : Shared} {Q : Value → Shared → Prop} {E : Value → Shared → Prop} {x dx tb b hs : Addr} {al av : Value} {Bs Hs : List Lab} {As : Option (List Lab)}
    (G : Gd w mg mb s.heap) (hA : Room 4 A) (hp : PolAt s.heap x dx (.ref tb) al) (htb : TupOf s.heap tb (Bs.map dom)) (hal : AlAt s.heap al As) (hb : RowsAt s.heap b Bs) (hav : AvAt s.heap av As) (hhs : RowsAt s.heap hs Hs)
    (hBs : ∀ L ∈ Bs, L ∈ allL) (hAs : inAl As) (hHs : ∀ L ∈ Hs, L ∈ allL) (zB : Bs.length ≤ 1000)
    (h : ∀ h' k, Kp s.heap h' → Q (.bool true) { s with heap := h', toks := k }) :
    wpAny (model PR w) A (call (.ref 296) [.ref x, .ref b, av, .ref hs]) Q E s := by
  refine' entryC (cn := Str.ofString "host") (binds := [(Str.ofString "policy", .ref x), (Str.ofString "blocked", .ref b), (Str.ofString "allowed", av), (Str.ofString "hosts", .ref hs)]) G hA.dd ?ho ?hcd ?hb ?hloc ?hc ?hcv ?kh ?c1 ?c2 ?c3
  case ho => k_is
  case hcd => k_is
  case hb => exact rfl
  case hloc => exact locs rfl
  case hc => exact rfl
  case hcv => exact rfl
  case c1 => exact rfl
  case c2 => exact rfl
  case c3 => exact rfl
  intro h₁ k₁ X
  have hu : ∀ env, (A.deeper env).units < cLine := fun env => by show A.units + 3 < cLine; have := hA.u; omega
  have lkX : ∃ m, FC s.heap h₁ m none ∧ Lk m x b av ∧ m (Str.ofString "hosts") = some (.ref hs) := ⟨_, X, ⟨rfl, rfl, rfl⟩, rfl⟩
  clear X
  obtain ⟨m₁, X, lk, hho⟩ := lkX
  -- policy.blocked_domains() != _law_texts(blocked)
  refine wpAny_execs_cons (wpAny_If (cut (fun c _ => c = false) ?_ ?_))
  · have kp := X.F.keep
    refine wpAny_isTrue_Compare1 (MethodCall_ (nmL X.F.ns lk.p (meth G X.F (hp.keeps kp) (pg122 w) (fi122 w) (if122 w) (by decide) (callWith_K0 (G.X.keeps kp) (kp122 w) ?_))))
    refine bdom_call (G.keeps kp) (hA.deeper.less (by omega)) (hp.keeps kp) fun h₂ k₂ kp₂ => ?_
    dsimp only at kp₂ ⊢
    have X₂ := X.keeps kp₂
    have kp' := X₂.F.keep
    refine Call_ (nmG (G.keeps kp') (nsTexts w) (callWith_K G.X (kp286 w) (args_cons (nmL X₂.F.ns lk.b (args_nil ⟨G.X.keeps kp', ?_⟩)))))
    refine texts_call (G.keeps kp') (hA.deeper.less (by omega)) (hb.keeps kp') hBs zB fun t h₃ k₃ kp₃ _ ht => ?_
    dsimp only at kp₃ ⊢
    refine ne_tups ((htb.keeps kp').keeps kp₃) ht (hu _) (wpAny_truthy_bool ⟨h₃, k₃, rfl, Kp.trans kp₂ kp₃, rfl⟩)
  rintro c h₂ k₂ rfl kp₂
  dsimp only at kp₂ ⊢
  refine ite_f rfl (wpAny_execs_nil ?_)
  dsimp only
  replace X := X.keeps kp₂
  clear kp₂ k₁ h₁
  -- policy.allowed_domains() != (None if allowed is None else _law_texts(allowed))
  refine wpAny_execs_cons (wpAny_If (cut (fun c _ => c = false) ?_ ?_))
  · have kp := X.F.keep
    refine wpAny_isTrue_Compare1 (MethodCall_ (nmL X.F.ns lk.p (meth G X.F (hp.keeps kp) (pg143 w) (fi143 w) (if143 w) (by decide) (callWith_K0 (G.X.keeps kp) (kp143 w) ?_))))
    refine adom_call (G.keeps kp) (hA.deeper.less (by omega)) (hp.keeps kp) hal.handed fun h₃ k₃ kp₃ => ?_
    dsimp only at kp₃ ⊢
    have X₂ := X.keeps kp₃
    have kp' := X₂.F.keep
    cases As with
    | none =>
      obtain rfl : av = .none := hav
      obtain rfl : al = .none := hal
      refine IfExp_ (wpAny_isTrue_Compare1 (nmL X₂.F.ns lk.a (Constant_none (wpAny_is_self rfl (wpAny_truthy_bool (ite_t rfl (Constant_none ?_)))))))
      exact cmp_ofNotEq (SeqAt.RcNeAt.none_none PR w _ _ (wpAny_truthy_bool ⟨h₃, k₃, rfl, kp₃, rfl⟩))
    | some As =>
      obtain ⟨r, rfl, hr, zA⟩ := hav
      obtain ⟨ta, rfl, hta⟩ := hal
      refine IfExp_ (wpAny_isTrue_Compare1 (nmL X₂.F.ns lk.a (Constant_none (wpAny_is_other rfl (by intro e; cases e) (wpAny_truthy_bool (ite_f rfl (Call_ (nmG (G.keeps kp') (nsTexts w) (callWith_K G.X (kp286 w) (args_cons (nmL X₂.F.ns lk.a (args_nil ⟨G.X.keeps kp', ?_⟩)))))))))))) 
      refine texts_call (G.keeps kp') (hA.deeper.less (by omega)) (hr.keeps kp') hAs zA fun t h₄ k₄ kp₄ _ ht => ?_
      dsimp only at kp₄ ⊢
      refine ne_tups ((hta.keeps kp').keeps kp₄) ht (hu _) (wpAny_truthy_bool ⟨h₄, k₄, rfl, Kp.trans kp₃ kp₄, rfl⟩)
  rintro c h₃ k₃ rfl kp₃
  dsimp only at kp₃ ⊢
  refine ite_f rfl (wpAny_execs_nil ?_)
  dsimp only
  replace X := X.keeps kp₃
  clear kp₃ k₂ h₂
  -- for host in hosts
  refine wpAny_execs_cons (wpAny_For (nmL X.F.ns hho ?_))
  have hhs' := hhs.keeps X.F.keep
  obtain ⟨vs, hv, hrows⟩ := hhs
  have hhsL : hs < s.heap.objs.size := let ⟨_, e⟩ := hv; Heap.lt_size e
  have hcl : s.heap.objs.size + 1 < h₃.objs.size := X.c.lt
  refine for_seqG (by exact hA.hh) (.inr (hv.at fun o e => X.F.keep _ o e).isList) [s.heap.objs.size, s.heap.objs.size + 1] ?_ (fun i s₁ => ∃ h₄ k₄ m₄ cv, s₁ = { s with heap := h₄, toks := k₄ } ∧ FC s.heap h₄ m₄ cv ∧ Lk m₄ x b av)
    ⟨h₃, k₃, _, _, rfl, X, lk⟩ ?_ ?_ ?_ (fun _ _ q => q)
  · intro c hc
    rcases List.mem_cons.mp hc with e | hc
    · rw [e]; exact ⟨Nat.lt_of_succ_lt hcl, (Nat.ne_of_lt hhsL).symm⟩
    · rw [List.mem_singleton.mp hc]; exact ⟨hcl, (Nat.ne_of_lt (Nat.lt_succ_of_lt hhsL)).symm⟩
  · rintro i s₁ I h' tk ⟨h₄, k₄, m₄, cv, rfl, X₄, lk₄⟩ hI kp kx
    exact ⟨h', tk, m₄, cv, rfl, X₄.step ⟨h₃, hI, X.F.keep, _, _, X⟩ kp, lk₄⟩
  · rintro i v s₁ hvi ⟨h₄, k₄, m₄, cv, rfl, X₄, lk₄⟩
    obtain ⟨c, H, hHi, rfl, hcH⟩ := hrows.get (i := i) (v := v) (by simpa using hvi)
    have hH : H ∈ allL := hHs H (List.mem_of_getElem? hHi)
    refine wpAny_assign_Name (stFCc X₄ fun h₅ X₅ kw₅ => ?_)
    dsimp only at X₅ kw₅ ⊢
    -- refused
    refine wpAny_execs_cons (wpAny_Assign_Name (cut (fun v _ => v = .bool (Bs.any (lawMatch H))) ?_ ?_))
    · refine wpAny_Compare1 ?_
      refine match_comp G X₅ (hA.deeper.less (by omega)) (hcH.keeps X₅.F.keep) hH lk₄.b (hb.keeps X₅.F.keep) hBs zB (fun D h₆ k₆ us kp₆ _ hD hus => ?_) rfl (by decide) rfl (by decide) rfl rfl rfl (by decide) (fun _ => rfl) (fun _ => rfl) (fun _ => rfl) (fun _ => rfl)
      dsimp only at kp₆ ⊢
      refine List_ (args_nil (newL (fun e h₇ kp₇ _ he => ?_) (by show 0 ≤ 1000; omega)))
      dsimp only at kp₇ ⊢
      refine ne_nil (vs := us) (let ⟨o, ho, q⟩ := hD; ⟨o, kp₇ _ _ ho, q⟩) he.isList (hu _) ?_
      exact ⟨h₇, _, rfl, Kp.trans kp₆ kp₇, by rw [hus, Bool.not_not]⟩
    rintro v h₆ k₆ rfl kp₆
    dsimp only at kp₆ ⊢
    have X₆ := X₅.keeps kp₆
    refine stFC X₆ fun h₇ X₇ kw₇ => ?_
    have lk₇ := lk₄.set (n := Str.ofString "refused") (v := .bool (Bs.any (lawMatch H))) (by decide) (by decide) (by decide)
    have hr₇ : (fun y => if y = Str.ofString "refused" then some (Value.bool (Bs.any (lawMatch H))) else m₄ y) (Str.ofString "refused") = some (.bool (Bs.any (lawMatch H))) := if_pos rfl
    dsimp only at X₇ kw₇ ⊢
    generalize (fun y => if y = Str.ofString "refused" then some (Value.bool (Bs.any (lawMatch H))) else m₄ y) = m₇ at X₇ lk₇ hr₇ ⊢
    -- outside
    refine wpAny_execs_cons (wpAny_Assign_Name (cut (fun v _ => v = .bool (outB H As)) ?_ ?_))
    · cases As with
      | none =>
        obtain rfl : av = .none := hav
        refine BoolOp_and (wpAny_Compare1 (nmL X₇.F.ns lk₇.a (Constant_none (wpAny_isNot_self rfl (wpAny_truthy_bool (ite_f rfl ?_))))))
        exact ⟨h₇, _, rfl, Kp.rfl, rfl⟩
      | some As =>
        obtain ⟨r, rfl, hr, zA⟩ := hav
        refine BoolOp_and (wpAny_Compare1 (nmL X₇.F.ns lk₇.a (Constant_none (wpAny_isNot_other rfl (by intro e; cases e) (wpAny_truthy_bool (ite_t rfl ?_))))))
        refine BoolOp_one (wpAny_Compare1 ?_)
        refine match_comp G X₇ (hA.deeper.less (by omega)) (hcH.keeps X₇.F.keep) hH lk₇.a (hr.keeps X₇.F.keep) hAs zA (fun D h₈ k₈ us kp₈ _ hD hus => ?_) rfl (by decide) rfl (by decide) rfl rfl rfl (by decide) (fun _ => rfl) (fun _ => rfl) (fun _ => rfl) (fun _ => rfl)
        dsimp only at kp₈ ⊢
        refine List_ (args_nil (newL (fun e h₉ kp₉ _ he => ?_) (by show 0 ≤ 1000; omega)))
        dsimp only at kp₉ ⊢
        refine eq_nil (vs := us) (let ⟨o, ho, q⟩ := hD; ⟨o, kp₉ _ _ ho, q⟩) he.isList (hu _) ?_
        exact ⟨h₉, _, rfl, Kp.trans kp₈ kp₉, by rw [hus]; rfl⟩
    rintro v h₈ k₈ rfl kp₈
    dsimp only at kp₈ ⊢
    have X₈ := X₇.keeps kp₈
    refine stFC X₈ fun h₉ X₉ kw₉ => ?_
    have lk₉ := lk₇.set (n := Str.ofString "outside") (v := .bool (outB H As)) (by decide) (by decide) (by decide)
    have hr₉ : (fun y => if y = Str.ofString "outside" then some (Value.bool (outB H As)) else m₇ y) (Str.ofString "refused") = some (.bool (Bs.any (lawMatch H))) := (if_neg (by decide)).trans hr₇
    have ho₉ : (fun y => if y = Str.ofString "outside" then some (Value.bool (outB H As)) else m₇ y) (Str.ofString "outside") = some (.bool (outB H As)) := if_pos rfl
    dsimp only at X₉ kw₉ ⊢
    generalize (fun y => if y = Str.ofString "outside" then some (Value.bool (outB H As)) else m₇ y) = m₉ at X₉ lk₉ hr₉ ho₉ ⊢
    -- told
    refine wpAny_execs_cons (wpAny_Assign_Name (cut (fun v h => ∃ t, v = .ref t ∧ s.heap.get? t = none ∧ h₉.get? t = none ∧ h.get? t = some { cls := .type "tuple", data := .seq [Value.bool (Bs.any (lawMatch H)), .bool (outB H As)].toArray }) ?_ ?_))
    · have kp := X₉.F.keep
      refine Tuple_ (args_cons (MethodCall_ (nmL X₉.F.ns lk₉.p (meth G X₉.F (hp.keeps kp) (pg136 w) (fi136 w) (if136 w) (by decide) (callWith_K G.X (kp136 w) (args_cons (MethodCall_ (Constant_str (GM.join (callWith_method1 (args_cons (ldFCc X₉ (args_nil (join_call (hcH.keeps kp) hH fun t k => ?_)))))))))))))) 
      refine args_nil ⟨G.X.keeps kp, ?_⟩
      refine blocked_call (G.keeps kp) hA.deeper hH hBs (hp.keeps kp) (htb.keeps kp) fun h₁₀ k₁₀ kp₁₀ => ?_
      dsimp only at kp₁₀ ⊢
      have X₁₀ := X₉.keeps kp₁₀
      have kp' := X₁₀.F.keep
      refine args_cons (MethodCall_ (nmL X₁₀.F.ns lk₉.p (meth G X₁₀.F (hp.keeps kp') (pg157 w) (fi157 w) (if157 w) (by decide) (callWith_K G.X (kp157 w) (args_cons (MethodCall_ (Constant_str (GM.join (callWith_method1 (args_cons (ldFCc X₁₀ (args_nil (join_call (hcH.keeps kp') hH fun t' k' => ?_)))))))))))))
      refine args_nil ⟨G.X.keeps kp', ?_⟩
      refine notallowed_call (G.keeps kp') hA.deeper hH hAs (hp.keeps kp') (hal.keeps kp') fun h₁₁ k₁₁ kp₁₁ => ?_
      dsimp only at kp₁₁ ⊢
      refine args_nil (newT (fun t h₁₂ kp₁₂ hnew ht => ?_) (by show 2 ≤ 1000; omega))
      dsimp only at kp₁₂ hnew ⊢
      exact ⟨h₁₂, _, rfl, Kp.trans kp₁₀ (Kp.trans kp₁₁ kp₁₂), t, rfl, old_none (Kp.trans kp' kp₁₁) hnew, old_none (Kp.trans kp₁₀ kp₁₁) hnew, ht⟩
    rintro v h₁₀ k₁₀ ⟨t, rfl, htn, htn', ht⟩ kp₁₀
    dsimp only at kp₁₀ ⊢
    have X₁₀ := X₉.keeps kp₁₀
    refine stFC X₁₀ fun h₁₁ X₁₁ kw₁₁ => ?_
    dsimp only at X₁₁ kw₁₁ ⊢
    have ht₁₁ : h₁₁.get? t = some { cls := .type "tuple", data := .seq [Value.bool (Bs.any (lawMatch H)), .bool (outB H As)].toArray } := by
      refine kw₁₁ t _ (fun hm => ?_) ht
      rcases List.mem_cons.mp hm with e | hm
      · exact ne_new_ns X₉.F.ns htn' e.symm
      · obtain ⟨o, e, _⟩ := X₉.c
        exact ne_of_new e htn' (List.mem_singleton.mp hm).symm
    have lk₁₁ := lk₉.set (n := Str.ofString "told") (v := .ref t) (by decide) (by decide) (by decide)
    have hr₁₁ : (fun y => if y = Str.ofString "told" then some (Value.ref t) else m₉ y) (Str.ofString "refused") = some (.bool (Bs.any (lawMatch H))) := (if_neg (by decide)).trans hr₉
    have ho₁₁ : (fun y => if y = Str.ofString "told" then some (Value.ref t) else m₉ y) (Str.ofString "outside") = some (.bool (outB H As)) := (if_neg (by decide)).trans ho₉
    have htd : (fun y => if y = Str.ofString "told" then some (Value.ref t) else m₉ y) (Str.ofString "told") = some (.ref t) := if_pos rfl
    generalize (fun y => if y = Str.ofString "told" then some (Value.ref t) else m₉ y) = m₁₁ at X₁₁ lk₁₁ hr₁₁ ho₁₁ htd ⊢
    -- the test
    refine wpAny_execs_cons (wpAny_If (cut (fun c _ => c = false) ?_ ?_))
    · refine isTrue_or (wpAny_isTrue_Compare1 (nmL X₁₁.F.ns htd (Tuple_ (args_cons (nmL X₁₁.F.ns hr₁₁ (args_cons (nmL X₁₁.F.ns ho₁₁ (args_nil (newT (fun t' h₁₂ kp₁₂ _ ht' => ?_) (by show 2 ≤ 1000; omega))))))))))
      dsimp only at kp₁₂ ⊢
      refine ne_bools (kp₁₂ _ _ ht₁₁) ht' (hu _) (wpAny_truthy_bool (ite_f rfl ?_))
      have X₁₂ := X₁₁.keeps kp₁₂
      refine isTrue_or (wpAny_isTrue_Compare1 ?_)
      refine bools_comp G X₁₂.F.keep X₁₂.F.ns (hA.deeper.less (by omega)) htd (kp₁₂ _ _ ht₁₁) (fun D h₁₃ k₁₃ kp₁₃ _ hD => ?_) (by decide) (by decide) rfl (by decide) rfl rfl rfl rfl rfl (by decide) (fun _ => rfl) (fun _ => rfl) (fun _ => rfl) (fun _ => rfl)
      dsimp only at kp₁₃ ⊢
      refine List_ (args_nil (newL (fun e h₁₄ kp₁₄ _ he => ?_) (by show 0 ≤ 1000; omega)))
      dsimp only at kp₁₄ ⊢
      refine ne_nil (vs := []) (let ⟨o, ho, q⟩ := hD; ⟨o, kp₁₄ _ _ ho, q⟩) he.isList (hu _) (wpAny_truthy_bool (ite_f rfl (isTrue_or_nil ?_)))
      exact ⟨h₁₄, _, rfl, Kp.trans kp₁₂ (Kp.trans kp₁₃ kp₁₄), rfl⟩
    rintro c h₁₂ k₁₂ rfl kp₁₂
    dsimp only at kp₁₂ ⊢
    refine ite_f rfl (wpAny_execs_nil (wpAny_execs_nil ?_))
    refine ⟨⟨h₁₂, k₁₂, m₁₁, _, rfl, X₁₁.keeps kp₁₂, lk₁₁⟩, fun c o hc e => ?_⟩
    exact kp₁₂ _ _ (kw₁₁ _ _ hc (kp₁₀ _ _ (kw₉ _ _ hc (kp₈ _ _ (kw₇ _ _ hc (kp₆ _ _ (kw₅ _ _ hc e)))))))
  · rintro s₁ ⟨h₄, k₄, m₄, cv, rfl, X₄, lk₄⟩
    exact wpAny_execs_cons (wpAny_Return_some (Constant_bool (h h₄ k₄ X₄.F.keep)))
end Mine
end
section
open PySem PySem.W PyProof.Rows PySem.Calls
namespace Mine
theorem getL_some {es : List DictEntry} (h : es.any (·.refKey) = false) (nm : Str) : (getL nm es).isSome = true := by
  rw [getL_eq, h]
  cases (es.find? (·.key.isStr nm)).map (·.val) <;> rfl
/-- the policy under its making -/
def Dx (h : Heap) (x dx : Addr) (k : Nat) (P : List DictEntry → Prop) : Prop :=
  ∃ es n, h.get? x = some (instObj 272 dx) ∧ h.get? dx = some (dictOf es n) ∧ es.length ≤ k ∧ es.any (·.refKey) = false ∧ (∀ nm ∈ meths, getL nm es = some none) ∧ P es
theorem set_step {w : World} {mg mb} {A : Around} {s : Shared} {Q : Unit → Shared → Prop} {E : Value → Shared → Prop} {base : Heap} {L x dx : Addr} {k : Nat} {m : Str → Option Value} {name : Str} {v : Value} {P P' : List DictEntry → Prop}
    (G : Gd w mg mb base) (F : Fr base L s.heap m) (D : Dx s.heap x dx k P) (hdx : base.get? dx = none) (hL : L ≠ dx) (ta : takerIn (hd.heap_39 w.params) 272 name = some none) (hn : name ∉ meths) (hk : k ≤ 90)
    (hP : ∀ es hsh t, P es → P' (putL name hsh (.str name t) v es))
    (h : ∀ h' k', KpB [dx] s.heap h' → Fr base L h' m → Dx h' x dx (k + 1) P' → Q () { s with heap := h', toks := k' }) :
    wpAny (model PR w) A (setAttr (.ref x) name v) Q E s := by
  obtain ⟨es, n, h1, h2, h3, h4, h5, h6⟩ := D
  have hne : x ≠ dx := by rintro rfl; rw [h1] at h2; cases h2
  refine set_mine (G.X.keeps F.keep) h1 h2 (sa_p w) (po_p w) ta (hd_p w) (getL_some h4 _) (by omega) fun h' t sb e => ?_
  have kb : KpB [dx] s.heap h' := fun b o hb e => sb.extBut b o (fun q => hb (by rw [q]; exact .head _)) e
  refine h h' _ kb (Fr.step F kb (fun b hb => by rw [List.mem_singleton.mp hb]; exact hdx) (fun hb => hL (List.mem_singleton.mp hb))) ⟨_, _, (sb.2 _ hne).trans h1, e, ?_, ?_, fun nm hm => ?_, hP _ _ _ h6⟩
  · have := putL_len name (PyData.keyHash w.params name) (.str name t) v es; omega
  · rw [ref_put]; exact h4
  · rw [getL_put_other (by rintro rfl; exact hn hm)]; exact h5 nm hm
section
variable (w : World)
theorem tk0 : takerIn (hd.heap_39 w.params) 272 (Str.ofString "netscape") = some none := by k_is
theorem tk1 : takerIn (hd.heap_39 w.params) 272 (Str.ofString "rfc2965") = some none := by k_is
theorem tk2 : takerIn (hd.heap_39 w.params) 272 (Str.ofString "rfc2109_as_netscape") = some none := by k_is
theorem tk3 : takerIn (hd.heap_39 w.params) 272 (Str.ofString "hide_cookie2") = some none := by k_is
theorem tk4 : takerIn (hd.heap_39 w.params) 272 (Str.ofString "strict_domain") = some none := by k_is
theorem tk5 : takerIn (hd.heap_39 w.params) 272 (Str.ofString "strict_rfc2965_unverifiable") = some none := by k_is
theorem tk6 : takerIn (hd.heap_39 w.params) 272 (Str.ofString "strict_ns_unverifiable") = some none := by k_is
theorem tk7 : takerIn (hd.heap_39 w.params) 272 (Str.ofString "strict_ns_domain") = some none := by k_is
theorem tk8 : takerIn (hd.heap_39 w.params) 272 (Str.ofString "strict_ns_set_initial_dollar") = some none := by k_is
theorem tk9 : takerIn (hd.heap_39 w.params) 272 (Str.ofString "strict_ns_set_path") = some none := by k_is
theorem tk10 : takerIn (hd.heap_39 w.params) 272 (Str.ofString "secure_protocols") = some none := by k_is
theorem mk_p : makesIn (hd.heap_39 w.params) 272 = true := by k_is
theorem fi_init : findIn (hd.heap_39 w.params) (.ref 272) "__init__" = some (some (.ref 115)) := by k_is
theorem if_init : isFn (hd.heap_39 w.params) (.ref 115) = true := by k_is
end
theorem make_mine {w : World} {A : Around} {s : Shared} {Q : Value → Shared → Prop} {E : Value → Shared → Prop} {K : Frag} {C fI : Addr} {pos : List Value} {kw : List (Str × Value)}
    (X : K.In s.heap) (hm : makesIn K C = true) (hi : findIn K (.ref C) "__init__" = some (some (.ref fI))) (hf : isFn K (.ref fI) = true)
    (h : ∀ h' x dx, Kp s.heap h' → s.heap.get? x = none → dx = s.heap.objs.size → h'.get? x = some (instObj C dx) → h'.get? dx = some (dictOf [] 0) →
      codeAny (model PR w) (A.under (.builtin "type.__call__" ⟨.ref C :: pos, kw⟩)) (.call (.ref fI) ⟨.ref x :: pos, kw⟩) (InitBack x fun r s' => match r with | .ok (.ret v) => Q v s' | .ok _ => False | .error e => E e s') { s with heap := h' }) :
    wpAny (model PR w) A (call (.ref C) pos kw) Q E s := by
  refine wpAny_call ?_
  obtain ⟨hh, g, d, t, os⟩ := s
  refine make_core (makes_of X hm) (looks_findIn X hi) (fun self => bind_fn X self (beq_iff_eq.mp hf)) (.inl rfl) (h _ (hh.objs.size + 1) hh.objs.size (fun b o e => Heap.get?_push_of_some _ (Heap.get?_push_of_some _ e)) (Heap.get?_none_of_le (Nat.le_succ _)) rfl ?_ ?_)
  · have := Heap.get?_push_size (hh.push emptyDict) (o := instObj C hh.objs.size) rfl
    rw [Heap.size_push] at this
    exact this
  · exact Heap.get?_push_of_some _ (Heap.get?_push_size _ rfl)
theorem CallK_ {M : Model} {A : Around} {E : Value → Shared → Prop} {s : Shared} {env : Env} {func : Expr} {args : List Expr} {kws : List Keyword} {pos : Pos} {Q : Value → Shared → Prop}
    (h : wpAny M A (eval func env) (fun f s₁ => wpAny M A (callWith pos f [] (backTo pos (starEach args env)) (backToKw pos (keywordEach kws env))) Q E s₁) E s)
    (he : eval (.Call func args kws pos) env = (do callWith pos (← eval func env) [] (backTo pos (starEach args env)) (backToKw pos (keywordEach kws env))) := by rfl) :
    wpAny M A (eval (.Call func args kws pos) env) Q E s := by
  rw [he]; exact wpAny_bind h
theorem entryI {w : World} {mg mb} {A : Around} {s : Shared} {R : Result → Shared → Prop} {f : Addr}
    {oc : Value} {od : Option Addr} {osl : Array (Option Value)} {name qual : Str} {params : Arguments} {body : List Stmt} {scope : Scope} {dV kV doc pm cdv ct : Value} {an : Option Addr} {pos : List Value} {kw : List (Str × Value)} {binds : List (Str × Value)}
    (G : Gd w mg mb s.heap) (hA : A.depth < recursionLimit)
    (ho : (hd.heap_39 w.params).lookup f = some ⟨oc, od, .func (fnOf name qual params body scope dV kV doc pm an cdv ct), osl⟩)
    (hcd : codeIn (hd.heap_39 w.params) cdv qual = true)
    (hbind : BindsTo s (fnOf name qual params body scope dV kV doc pm an cdv ct) ⟨pos, kw⟩ binds)
    (hcell : ∀ x ∈ scope.names, x.2 ≠ .cell) (hloc : ∀ x ∈ binds, scope.names.lookup x.1 = some .local)
    (h : ∀ h₁, Fr s.heap s.heap.objs.size h₁ (fun x => binds.reverse.lookup x) →
      wpAny (model PR w) (A.deeper (envOf qual scope s.heap.objs.size f cdv)) (execs body (envOf qual scope s.heap.objs.size f cdv))
        (fun fl s' => R (.ok (.ret (match fl with | .ret v => v | _ => .none))) s') (fun _ _ => False) { s with heap := h₁, toks := s.toks + binds.length })
    (hco : scope.isCoroutine = false := by rfl) (hgen : scope.isGenerator = false := by rfl) (hk : scope.kind = .function := by rfl) :
    codeAny (model PR w) A (.call (.ref f) ⟨pos, kw⟩) R s := by
  refine codeAny_call_def (fd := fnOf name qual params body scope dV kV doc pm an cdv ct) (body := body) (binds := binds) hA (G.X _ _ ho) rfl G.T.nolimit (codeRec_of G.X hcd) rfl hbind hcell hloc (fun h₁ hns hk₁ => ?_) hco hgen hk
  exact wpAny_mono (h h₁ ⟨hns, hk₁, Nat.le_refl _⟩) (fun _ _ x => x) (fun _ _ x => x.elim)
/-- what a caller hands in: None, or a list of texts -/
def ArgAt (h : Heap) (v : Value) : Option (List Str) → Prop
  | none => v = .none
  | some xs => ∃ l, v = .ref l ∧ LstOf h l xs ∧ xs.length ≤ 1000
/-- what the policy keeps of it -/
def TupAt (h : Heap) (v : Value) : Option (List Str) → Prop
  | none => v = .none
  | some xs => ∃ t, v = .ref t ∧ TupOf h t xs
set_option maxHeartbeats 8000000 in
theorem new_call {w : World} {mg mb} {A : Around} {s : Shared} {Q : Value → Shared → Prop} {E : Value → Shared → Prop} {kw : List (Str × Value)} {bv av : Value} {bx ax : Option (List Str)}
    (G : Gd w mg mb s.heap) (hA : Room 2 A) (hkw : (kw = [] ∧ bv = .none ∧ av = .none) ∨ kw = [(Str.ofString "blocked_domains", bv), (Str.ofString "allowed_domains", av)])
    (hb : ArgAt s.heap bv bx) (ha : ArgAt s.heap av ax)
    (h : ∀ h' k x dx tb al, Kp s.heap h' → s.heap.get? x = none → s.heap.get? dx = none → PolAt h' x dx (.ref tb) al → TupOf h' tb (bx.getD []) → TupAt h' al ax → Q (.ref x) { s with heap := h', toks := k }) :
    wpAny (model PR w) A (call (.ref 272) [] kw) Q E s := by
  refine make_mine G.X (mk_p w) (fi_init w) (if_init w) fun h₀ x dx kp₀ hx hdx₀ ex edx => ?_
  have hdx : s.heap.get? dx = none := by rw [hdx₀]; exact none_at_size Kp.rfl
  have hsz : s.heap.objs.size ≤ h₀.objs.size := by rw [← hdx₀]; exact Nat.le_of_lt (Heap.lt_size edx)
  have G₀ := G.keeps kp₀
  have hdep : ∀ k, (A.under (.builtin "type.__call__" ⟨[.ref 272], k⟩)).depth = A.depth + 1 := fun _ => rfl
  refine' entryI (binds := [(Str.ofString "self", .ref x), (Str.ofString "blocked_domains", bv), (Str.ofString "allowed_domains", av), (Str.ofString "netscape", .bool true), (Str.ofString "rfc2965", .bool false), (Str.ofString "rfc2109_as_netscape", .none), (Str.ofString "hide_cookie2", .bool false), (Str.ofString "strict_domain", .bool false), (Str.ofString "strict_rfc2965_unverifiable", .bool true), (Str.ofString "strict_ns_unverifiable", .bool false), (Str.ofString "strict_ns_domain", .int 0 411), (Str.ofString "strict_ns_set_initial_dollar", .bool false), (Str.ofString "strict_ns_set_path", .bool false), (Str.ofString "secure_protocols", .ref 107)]) G₀ ?hd ?ho ?hcd ?hb ?hcell ?hloc ?kh ?c1 ?c2 ?c3
  case hd => rw [hdep]; have := hA.d; omega
  case ho => k_is
  case hcd => k_is
  case hb =>
    rcases hkw with ⟨rfl, rfl, rfl⟩ | rfl
    · exact binds_K G₀.X rfl (by k_is) rfl rfl (by kernel_rfl)
    · exact binds_K G₀.X rfl (by k_is) rfl rfl (by kernel_rfl)
  case hcell => decide
  case hloc => exact locs rfl
  case c1 => exact rfl
  case c2 => exact rfl
  case c3 => exact rfl
  intro h₁ F
  clear hkw
  dsimp only at F ⊢
  have hL : h₀.objs.size ≠ dx := fun e => by have := Heap.lt_size edx; rw [e] at this; exact Nat.lt_irrefl _ this
  have D : Dx h₁ x dx 0 (fun _ => True) := ⟨[], 0, F.keep _ _ ex, F.keep _ _ edx, Nat.le_refl _, rfl, fun _ _ => rfl, trivial⟩
  replace F : Fr s.heap h₀.objs.size h₁ _ := ⟨F.ns, Kp.trans kp₀ F.keep, hsz⟩
  refine wpAny_execs_cons (plainObj_wpAny_Assign_Attribute (ld F rfl (ld F rfl (set_step (P' := fun _ => True) G F D hdx hL (tk0 w) (by decide) (by omega) (fun _ _ _ _ => trivial) fun h' k' _ F' D' => ?_))))
  dsimp only at F' D' ⊢
  replace F := F'
  replace D := D'
  clear F' D'
  refine wpAny_execs_cons (plainObj_wpAny_Assign_Attribute (ld F rfl (ld F rfl (set_step (P' := fun _ => True) G F D hdx hL (tk1 w) (by decide) (by omega) (fun _ _ _ _ => trivial) fun h' k' _ F' D' => ?_))))
  dsimp only at F' D' ⊢
  replace F := F'
  replace D := D'
  clear F' D'
  refine wpAny_execs_cons (plainObj_wpAny_Assign_Attribute (ld F rfl (ld F rfl (set_step (P' := fun _ => True) G F D hdx hL (tk2 w) (by decide) (by omega) (fun _ _ _ _ => trivial) fun h' k' _ F' D' => ?_))))
  dsimp only at F' D' ⊢
  replace F := F'
  replace D := D'
  clear F' D'
  refine wpAny_execs_cons (plainObj_wpAny_Assign_Attribute (ld F rfl (ld F rfl (set_step (P' := fun _ => True) G F D hdx hL (tk3 w) (by decide) (by omega) (fun _ _ _ _ => trivial) fun h' k' _ F' D' => ?_))))
  dsimp only at F' D' ⊢
  replace F := F'
  replace D := D'
  clear F' D'
  refine wpAny_execs_cons (plainObj_wpAny_Assign_Attribute (ld F rfl (ld F rfl (set_step (P' := fun _ => True) G F D hdx hL (tk4 w) (by decide) (by omega) (fun _ _ _ _ => trivial) fun h' k' _ F' D' => ?_))))
  dsimp only at F' D' ⊢
  replace F := F'
  replace D := D'
  clear F' D'
  refine wpAny_execs_cons (plainObj_wpAny_Assign_Attribute (ld F rfl (ld F rfl (set_step (P' := fun _ => True) G F D hdx hL (tk5 w) (by decide) (by omega) (fun _ _ _ _ => trivial) fun h' k' _ F' D' => ?_))))
  dsimp only at F' D' ⊢
  replace F := F'
  replace D := D'
  clear F' D'
  refine wpAny_execs_cons (plainObj_wpAny_Assign_Attribute (ld F rfl (ld F rfl (set_step (P' := fun _ => True) G F D hdx hL (tk6 w) (by decide) (by omega) (fun _ _ _ _ => trivial) fun h' k' _ F' D' => ?_))))
  dsimp only at F' D' ⊢
  replace F := F'
  replace D := D'
  clear F' D'
  refine wpAny_execs_cons (plainObj_wpAny_Assign_Attribute (ld F rfl (ld F rfl (set_step (P' := fun _ => True) G F D hdx hL (tk7 w) (by decide) (by omega) (fun _ _ _ _ => trivial) fun h' k' _ F' D' => ?_))))
  dsimp only at F' D' ⊢
  replace F := F'
  replace D := D'
  clear F' D'
  refine wpAny_execs_cons (plainObj_wpAny_Assign_Attribute (ld F rfl (ld F rfl (set_step (P' := fun _ => True) G F D hdx hL (tk8 w) (by decide) (by omega) (fun _ _ _ _ => trivial) fun h' k' _ F' D' => ?_))))
  dsimp only at F' D' ⊢
  replace F := F'
  replace D := D'
  clear F' D'
  refine wpAny_execs_cons (plainObj_wpAny_Assign_Attribute (ld F rfl (ld F rfl (set_step (P' := fun _ => True) G F D hdx hL (tk9 w) (by decide) (by omega) (fun _ _ _ _ => trivial) fun h' k' _ F' D' => ?_))))
  dsimp only at F' D' ⊢
  replace F := F'
  replace D := D'
  clear F' D'
  refine wpAny_execs_cons (plainObj_wpAny_Assign_Attribute (ld F rfl (ld F rfl (set_step (P' := fun _ => True) G F D hdx hL (tk10 w) (by decide) (by omega) (fun _ _ _ _ => trivial) fun h' k' _ F' D' => ?_))))
  dsimp only at F' D' ⊢
  replace F := F'
  replace D := D'
  clear F' D'
  obtain ⟨m, FM, ms, mb', ma⟩ : ∃ m, Fr s.heap h₀.objs.size h' m ∧ m (Str.ofString "self") = some (.ref x) ∧ m (Str.ofString "blocked_domains") = some bv ∧ m (Str.ofString "allowed_domains") = some av := ⟨_, F, rfl, rfl, rfl⟩
  clear F
  refine wpAny_execs_cons (wpAny_mono (Q := fun f s' => f = .next ∧ ∃ h' k' tb, s' = { s with heap := h', toks := k' } ∧ Fr s.heap h₀.objs.size h' m ∧ Dx h' x dx 12 (fun es => getL (Str.ofString "_blocked_domains") es = some (some (.ref tb))) ∧ TupOf h' tb (bx.getD [])) (E := NoE) ?_ (fun f s' q => ?_) fun _ _ e => e.elim)
  · cases bx with
    | none =>
      obtain rfl : bv = .none := hb
      refine wpAny_If (wpAny_isTrue_Compare1 (ld FM mb' (Constant_none (wpAny_isNot_self rfl (wpAny_truthy_bool (ite_f rfl ?_))))))
      refine wpAny_execs_cons (plainObj_wpAny_Assign_Attribute (Tuple_ (args_nil (newT (fun t h₂ kp₂ _ ht => ?_) (by show 0 ≤ 1000; omega)))))
      dsimp only at kp₂ ⊢
      have F₂ := FM.keeps kp₂
      have D₂ : Dx h₂ x dx 11 (fun _ => True) := let ⟨es, n, a, b, c⟩ := D; ⟨es, n, kp₂ _ _ a, kp₂ _ _ b, c⟩
      have ht₂ : TupOf h₂ t [] := ⟨[], ⟨_, ht, rfl, _, rfl⟩, .nil⟩
      refine ld F₂ ms (set_step (P' := fun es => getL (Str.ofString "_blocked_domains") es = some (some (.ref t))) G F₂ D₂ hdx hL (ta_b w) (by decide) (by omega) (fun es hsh tt _ => getL_put_same _ hsh tt _ es) fun h₃ k₃ kb₃ F₃ D₃ => ?_)
      refine wpAny_execs_nil ⟨rfl, h₃, k₃, t, rfl, F₃, D₃, ?_⟩
      obtain ⟨es, n, a, b, c⟩ := D₂
      exact ht₂.at' fun o e => kb₃ _ _ (fun hm => ht₂.ne_dict b (List.mem_singleton.mp hm)) e
    | some xs =>
      obtain ⟨l, rfl, hl, hz⟩ := hb
      refine wpAny_If (wpAny_isTrue_Compare1 (ld FM mb' (Constant_none (wpAny_isNot_other rfl (by intro e; cases e) (wpAny_truthy_bool (ite_t rfl ?_))))))
      refine wpAny_execs_cons (plainObj_wpAny_Assign_Attribute (Call_ (name_B FM G.X G.T (nsTuple w) boot_tuple (by decide) (callWith_type1 (args_cons (ld FM mb' (args_nil ?_)))))))
      refine tuple_call (hl.keeps FM.keep) hz fun t h₂ kp₂ _ ht₂ => ?_
      dsimp only at kp₂ ⊢
      have F₂ := FM.keeps kp₂
      have D₂ : Dx h₂ x dx 11 (fun _ => True) := let ⟨es, n, a, b, c⟩ := D; ⟨es, n, kp₂ _ _ a, kp₂ _ _ b, c⟩
      refine ld F₂ ms (set_step (P' := fun es => getL (Str.ofString "_blocked_domains") es = some (some (.ref t))) G F₂ D₂ hdx hL (ta_b w) (by decide) (by omega) (fun es hsh tt _ => getL_put_same _ hsh tt _ es) fun h₃ k₃ kb₃ F₃ D₃ => ?_)
      refine wpAny_execs_nil ⟨rfl, h₃, k₃, t, rfl, F₃, D₃, ?_⟩
      obtain ⟨es, n, a, b, c⟩ := D₂
      exact ht₂.at' fun o e => kb₃ _ _ (fun hm => ht₂.ne_dict b (List.mem_singleton.mp hm)) e
  obtain ⟨rfl, h₂, k₂, tb, rfl, F₂, D₂, ht₂⟩ := q
  dsimp only
  clear FM D
  refine wpAny_execs_cons (wpAny_mono (Q := fun f s' => f = .next ∧ ∃ h' k' m' al, s' = { s with heap := h', toks := k' } ∧ Fr s.heap h₀.objs.size h' m' ∧ m' (Str.ofString "self") = some (.ref x) ∧ m' (Str.ofString "allowed_domains") = some al ∧ KpB [h₀.objs.size] h₂ h' ∧ TupAt h' al ax) (E := NoE) ?_ (fun f s' q => ?_) fun _ _ e => e.elim)
  · cases ax with
    | none =>
      obtain rfl : av = .none := ha
      refine wpAny_If (wpAny_isTrue_Compare1 (ld F₂ ma (Constant_none (wpAny_isNot_self rfl (wpAny_truthy_bool (ite_f rfl (wpAny_execs_nil ?_)))))))
      exact ⟨rfl, h₂, k₂, m, .none, rfl, F₂, ms, ma, fun b o _ e => e, rfl⟩
    | some xs =>
      obtain ⟨l, rfl, hl, hz⟩ := ha
      refine wpAny_If (wpAny_isTrue_Compare1 (ld F₂ ma (Constant_none (wpAny_isNot_other rfl (by intro e; cases e) (wpAny_truthy_bool (ite_t rfl ?_))))))
      refine wpAny_execs_cons (wpAny_Assign_Name (Call_ (name_B F₂ G.X G.T (nsTuple w) boot_tuple (by decide) (callWith_type1 (args_cons (ld F₂ ma (args_nil ?_)))))))
      refine tuple_call (hl.keeps F₂.keep) hz fun t h₃ kp₃ htn ht₃ => ?_
      dsimp only at kp₃ htn ⊢
      have F₃ := F₂.keeps kp₃
      refine stS F₃ fun h₄ F₄ sb₄ => ?_
      refine wpAny_execs_nil ⟨rfl, h₄, _, _, .ref t, rfl, F₄, (if_neg (by decide)).trans ms, if_pos rfl, fun b o hb e => sb₄.extBut b o (fun q => hb (by rw [q]; exact .head _)) (kp₃ _ _ e), t, rfl, ?_⟩
      exact ht₃.at' fun o e => sb₄.extBut _ _ (fun q => ne_new_ns F₂.ns htn q.symm) e
  obtain ⟨rfl, h₃, k₃, m', al, rfl, F₃, ms', ma', kb₃, hal⟩ := q
  dsimp only
  have hxL : x ≠ h₀.objs.size := fun e => by have := Heap.lt_size ex; rw [e] at this; exact Nat.lt_irrefl _ this
  have D₃ : Dx h₃ x dx 12 (fun es => getL (Str.ofString "_blocked_domains") es = some (some (.ref tb))) := let ⟨es, n, a, b, c⟩ := D₂; ⟨es, n, kb₃ _ _ (fun hm => hxL (List.mem_singleton.mp hm)) a, kb₃ _ _ (fun hm => hL (List.mem_singleton.mp hm).symm) b, c⟩
  have ht₃ : TupOf h₃ tb (bx.getD []) := ht₂.at' fun o e => kb₃ _ _ (fun hm => by
    rw [List.mem_singleton.mp hm] at e ht₂
    obtain ⟨vs, ⟨o', e', _, n, hd'⟩, _⟩ := ht₂
    obtain ⟨o'', es, ep, e'', hd'', _⟩ := F₂.ns
    rw [e'] at e''
    cases e''
    rw [hd'] at hd''
    cases hd'') e
  refine wpAny_execs_cons (plainObj_wpAny_Assign_Attribute (ld F₃ ma' (ld F₃ ms' (set_step (P' := fun es => getL (Str.ofString "_blocked_domains") es = some (some (.ref tb)) ∧ getL (Str.ofString "_allowed_domains") es = some (some al)) G F₃ D₃ hdx hL (ta_a w) (by decide) (by omega) (fun es hsh tt q => ⟨(getL_put_other (by decide) hsh tt _ es).trans q, getL_put_same _ hsh tt _ es⟩) fun h₄ k₄ kb₄ F₄ D₄ => ?_))))
  have hDD : ∃ es n, h₃.get? dx = some (dictOf es n) := let ⟨es, n, _, b, _⟩ := D₃; ⟨es, n, b⟩
  obtain ⟨es₃, n₃, e₃⟩ := hDD
  obtain ⟨es, n, a, b, c, d, e, f, g⟩ := D₄
  refine wpAny_execs_nil ⟨rfl, ?_⟩
  refine h h₄ k₄ x dx tb al F₄.keep hx hdx ⟨es, n, a, b, by omega, f, g, e⟩ (ht₃.at' fun o e => kb₄ _ _ (fun hm => ht₃.ne_dict e₃ (List.mem_singleton.mp hm)) e) ?_
  cases ax with
  | none => exact hal
  | some xs =>
    obtain ⟨t, q, ht⟩ := hal
    exact ⟨t, q, ht.at' fun o e => kb₄ _ _ (fun hm => ht.ne_dict e₃ (List.mem_singleton.mp hm)) e⟩
end Mine
end
section
open PySem PySem.W PyProof.Rows PySem.Calls
namespace Mine
theorem copy_call {w : World} {A : Around} {s : Shared} {E : Value → Shared → Prop} {Q : Value → Shared → Prop} {q : Addr} {its : Array Value} (hq : SeqAt s.heap q its) (hz : its.size ≤ 1000)
    (h : ∀ D h', Kp s.heap h' → s.heap.get? D = none → h'.PlainList D its → Q (.ref D) { s with heap := h' }) : wpAny (model PR w) A (call (.type "list") [.ref q]) Q E s := by
  have hz' : its.size ≤ sizeLine := by have := sizeLine_eq; omega
  rcases hq with ⟨o, ho, hc, n, hd⟩ | ⟨o, ho, hc, n, hd⟩
  · exact call_list_seq (hsz := hz') q (.inr rfl) ho hc hd fun h' c' hk hD => h _ h' hk (none_at_size Kp.rfl) ⟨c', hD⟩
  · exact call_list_seq (hsz := hz') q (.inl rfl) ho hc hd fun h' c' hk hD => h _ h' hk (none_at_size Kp.rfl) ⟨c', hD⟩
theorem clear_call {w : World} {A : Around} {s : Shared} {E : Value → Shared → Prop} {Q : Value → Shared → Prop} {D : Addr} {its : Array Value} (hD : s.heap.PlainList D its) (hz : its.size ≤ 1000)
    (h : ∀ h', h'.PlainList D #[] → Heap.SameBut D s.heap h' → Q .none { s with heap := h' }) : wpAny (model PR w) A (call (.builtin "list.clear") [.ref D]) Q E s := by
  obtain ⟨n, e⟩ := hD
  refine call_meets PySem.F.slot_list_clear ⟨_, e, rfl⟩ PySem.F.entry_list_clear (PySem.F.args_list_clear_1 _) (PySem.AutoSeq1.list_clear_list_0 D its n (by have := sizeLine_eq; omega)) ⟨e, h _ ?_ (Heap.SameBut.update ..)⟩
  exact ⟨_, PySem.IsL.update e _⟩
theorem getMethod_clear {w : World} {A : Around} {s : Shared} {E : Value → Shared → Prop} {D : Addr} {its : Array Value} {pl : Sem Bool} {Q : Value × List Value → Shared → Prop} (hD : s.heap.PlainList D its)
    (h : Q (.builtin "list.clear", [.ref D]) s) : wpAny (model PR w) A (getMethod (.ref D) (Str.ofString "clear") pl) Q E s :=
  let ⟨_, e⟩ := hD; getMethod_builtin ⟨_, e, rfl⟩ PySem.F.plainAttrs_list PySem.F.slot_list_clear PySem.F.type_list_clear (fun a e' => by cases e'; exact ⟨_, e, rfl⟩) h
theorem KpB.mono {wr wr' : List Addr} {h h' : Heap} (k : KpB wr h h') (hs : ∀ b ∈ wr, b ∈ wr') : KpB wr' h h' := fun b o hb e => k b o (fun q => hb (hs b q)) e
theorem KpB.trans {wr : List Addr} {h h' h'' : Heap} (k : KpB wr h h') (k' : KpB wr h' h'') : KpB wr h h'' := fun b o hb e => k' b o hb (k b o hb e)
theorem KpB.of {wr : List Addr} {h h' : Heap} (k : Kp h h') : KpB wr h h' := fun b o _ e => k b o e
theorem KpB.same {a : Addr} {h h' : Heap} (k : Heap.SameBut a h h') : KpB [a] h h' := fun b o hb e => k.extBut b o (fun q => hb (by rw [q]; exact .head _)) e
def DictAt (h : Heap) (b : Addr) : Prop := ∃ o es n, h.get? b = some o ∧ o.data = .dict es n
theorem DictAt.ofNs {h : Heap} {b m} (n : h.Ns b m) : DictAt h b := let ⟨o, es, ep, e, d, _⟩ := n; ⟨o, es, ep, e, d⟩
theorem DictAt.ofPol {h : Heap} {x dx bt al} (p : PolAt h x dx bt al) : DictAt h dx := let ⟨_, _, _, e, _⟩ := p; ⟨_, _, _, e, rfl⟩
theorem DictAt.ne_lst {h : Heap} {b r : Addr} {its : Array Value} (d : DictAt h b) (p : h.PlainList r its) : r ≠ b := by
  rintro rfl
  obtain ⟨o, es, n, e, hd⟩ := d
  obtain ⟨k, e'⟩ := p
  rw [e'] at e
  cases e
  cases hd
theorem DictAt.ne_isl {h : Heap} {b r : Addr} {its : Array Value} (d : DictAt h b) (p : h.IsList r its) : r ≠ b := by
  rintro rfl
  obtain ⟨o, es, n, e, hd⟩ := d
  obtain ⟨o', e', _, k, hd'⟩ := p
  rw [e'] at e
  cases e
  rw [hd'] at hd
  cases hd
theorem lst_ne_pol {h : Heap} {r x dx : Addr} {its : Array Value} {bt al} (p : h.PlainList r its) (q : PolAt h x dx bt al) : x ≠ r := by
  rintro rfl
  obtain ⟨k, e⟩ := p
  obtain ⟨es, n, e', _⟩ := q
  rw [e] at e'
  cases e'
/-- what a step keeps: all that is no dict and no iterator, and the two policies' dicts -/
def KpW (dx dy : Addr) (h h' : Heap) : Prop := ∀ c o, h.get? c = some o → o.cls ≠ .type "list_iterator" → o.cls ≠ .type "tuple_iterator" → ((∀ es n, o.data ≠ .dict es n) ∨ c = dx ∨ c = dy) → h'.get? c = some o
theorem KpW.of {dx dy : Addr} {h h' : Heap} (k : Kp h h') : KpW dx dy h h' := fun c o e _ _ _ => k c o e
theorem KpW.ofX {dx dy : Addr} {h h' : Heap} (k : KpX h h') : KpW dx dy h h' := fun c o e a b _ => k c o a b e
theorem KpW.ofD {dx dy b : Addr} {h h' : Heap} (k : KpB [b] h h') (d : DictAt h b) (hx : b ≠ dx) (hy : b ≠ dy) : KpW dx dy h h' := fun c o e _ _ p => k c o (fun hm => by
  obtain ⟨o', es, n, e', hd⟩ := d
  rw [← List.mem_singleton.mp hm, e] at e'
  cases e'
  rcases p with p | p | p
  · exact p _ _ hd
  · exact hx ((List.mem_singleton.mp hm).symm.trans p)
  · exact hy ((List.mem_singleton.mp hm).symm.trans p)) e
theorem cls_ne {a b : String} (h : a ≠ b) : (Value.type a) ≠ .type b := fun e => h (Value.type.inj e)
section
variable {h h' : Heap} {dx dy : Addr} (k : KpW dx dy h h')
include k
theorem PolAt.kwX {x bt al} (p : PolAt h x dx bt al) : PolAt h' x dx bt al :=
  let ⟨es, n, a, b, c⟩ := p; ⟨es, n, k _ _ a (by intro e; cases e) (by intro e; cases e) (.inl fun _ _ e => by cases e), k _ _ b (cls_ne (by decide)) (cls_ne (by decide)) (.inr (.inl rfl)), c⟩
theorem PolAt.kwY {x bt al} (p : PolAt h x dy bt al) : PolAt h' x dy bt al :=
  let ⟨es, n, a, b, c⟩ := p; ⟨es, n, k _ _ a (by intro e; cases e) (by intro e; cases e) (.inl fun _ _ e => by cases e), k _ _ b (cls_ne (by decide)) (cls_ne (by decide)) (.inr (.inr rfl)), c⟩
theorem TupOf.kw {a xs} (p : TupOf h a xs) : TupOf h' a xs :=
  let ⟨vs, ⟨o, e, hc, n, hd⟩, r⟩ := p; ⟨vs, ⟨o, k _ _ e (by rw [hc]; exact cls_ne (by decide)) (by rw [hc]; exact cls_ne (by decide)) (.inl fun _ _ q => by rw [hd] at q; cases q), hc, n, hd⟩, r⟩
theorem plain_kw {a its} (p : h.PlainList a its) : h'.PlainList a its :=
  let ⟨n, e⟩ := p; ⟨n, k _ _ e (cls_ne (by decide)) (cls_ne (by decide)) (.inl fun _ _ q => by cases q)⟩
theorem LstOf.kw {a xs} (p : LstOf h a xs) : LstOf h' a xs := let ⟨vs, ⟨o, e, hc, n, d⟩, r⟩ := p; ⟨vs, ⟨o, k _ _ e (by rw [hc]; exact cls_ne (by decide)) (by rw [hc]; exact cls_ne (by decide)) (.inl fun _ _ q => by rw [d] at q; cases q), hc, n, d⟩, r⟩
theorem PLst.kw {a xs} (p : PLst h a xs) : PLst h' a xs := let ⟨vs, e, r⟩ := p; ⟨vs, plain_kw k e, r⟩
theorem RowsAre.kw {vs Ls} (r : RowsAre h vs Ls) : RowsAre h' vs Ls := by
  induction r with
  | nil => exact .nil
  | cons p _ ih => exact .cons (p.kw k) ih
end
/-- rows whose lists, and whose own list, are none of these -/
def RowsO (h : Heap) (off : List Addr) (r : Addr) (Ls : List Lab) : Prop := ∃ vs, h.PlainList r vs.toArray ∧ RowsAre h vs Ls ∧ ∀ a, Value.ref a ∈ vs → a ∉ off
theorem RowsO.at {h off r Ls} (p : RowsO h off r Ls) : RowsAt h r Ls := let ⟨vs, a, b, _⟩ := p; ⟨vs, a, b⟩
theorem RowsAre.kb {h h' : Heap} {wr : List Addr} (k : KpB wr h h') {vs Ls} (r : RowsAre h vs Ls) (hw : ∀ a, Value.ref a ∈ vs → a ∉ wr) : RowsAre h' vs Ls := by
  induction r with
  | nil => exact .nil
  | cons p _ ih => exact .cons (let ⟨us, ⟨o, e, d⟩, q⟩ := p; ⟨us, ⟨o, k _ o (hw _ (.head _)) e, d⟩, q⟩) (ih fun a ha => hw a (.tail _ ha))
theorem RowsO.kw {h h' : Heap} {dx dy off r Ls} (k : KpW dx dy h h') (p : RowsO h off r Ls) : RowsO h' off r Ls := let ⟨vs, a, b, c⟩ := p; ⟨vs, plain_kw k a, b.kw k, c⟩
theorem RowsO.kb {h h' : Heap} {off r Ls} {b : Addr} (k : KpB [b] h h') (p : RowsO h off r Ls) (hr : r ≠ b) (hb : b ∈ off) : RowsO h' off r Ls :=
  let ⟨vs, x, y, c⟩ := p; ⟨vs, x.at fun o e => k _ o (fun hm => hr (List.mem_singleton.mp hm)) e, y.kb k fun a ha hm => c a ha (by rw [List.mem_singleton.mp hm]; exact hb), c⟩
theorem row_ne {h : Heap} {b : Addr} (d : DictAt h b) {vs Ls} (r : RowsAre h vs Ls) : ∀ a, Value.ref a ∈ vs → a ≠ b := by
  induction r with
  | nil => intro a ha; cases ha
  | cons p _ ih =>
    intro a ha
    rcases List.mem_cons.mp ha with e | ha
    · cases e; obtain ⟨us, e, _⟩ := p; exact d.ne_isl e
    · exact ih a ha
theorem RowsO.kd {h h' : Heap} {off r Ls} {b : Addr} (k : KpB [b] h h') (p : RowsO h off r Ls) (d : DictAt h b) : RowsO h' off r Ls :=
  let ⟨vs, x, y, c⟩ := p; ⟨vs, x.at fun o e => k _ o (fun hm => d.ne_lst x (List.mem_singleton.mp hm)) e, y.kb k fun a ha hm => row_ne d y a ha (List.mem_singleton.mp hm), c⟩
/-- the law's own allowed ones -/
def AvO (h : Heap) (off : List Addr) (v : Value) : Option (List Lab) → Prop
  | none => v = .none
  | some As => ∃ r, v = .ref r ∧ RowsO h off r As ∧ r ∉ off ∧ As.length ≤ 1000
theorem AvO.at {h off v o} (p : AvO h off v o) : AvAt h v o := by
  cases o with
  | none => exact p
  | some As => obtain ⟨r, e, q, _, z⟩ := p; exact ⟨r, e, q.at, z⟩
theorem AvO.kw {h h' : Heap} {dx dy off v o} (k : KpW dx dy h h') (p : AvO h off v o) : AvO h' off v o := by
  cases o with
  | none => exact p
  | some As => obtain ⟨r, e, q, z⟩ := p; exact ⟨r, e, q.kw k, z⟩
theorem AvO.kb {h h' : Heap} {off v o} {b : Addr} (k : KpB [b] h h') (p : AvO h off v o) (hb : b ∈ off) : AvO h' off v o := by
  cases o with
  | none => exact p
  | some As => obtain ⟨r, e, q, z⟩ := p; exact ⟨r, e, q.kb k (fun e => z.1 (e ▸ hb)) hb, z⟩
theorem AvO.kd {h h' : Heap} {off v o} {b : Addr} (k : KpB [b] h h') (p : AvO h off v o) (d : DictAt h b) : AvO h' off v o := by
  cases o with
  | none => exact p
  | some As => obtain ⟨r, e, q, z⟩ := p; exact ⟨r, e, q.kd k d, z⟩
theorem TupAt.kw {h h' : Heap} {dx dy v o} (k : KpW dx dy h h') (p : TupAt h v o) : TupAt h' v o := by
  cases o with
  | none => exact p
  | some As => obtain ⟨t, e, q⟩ := p; exact ⟨t, e, q.kw k⟩
theorem TupOf.ne_dictAt {h : Heap} {t b xs} (p : TupOf h t xs) (d : DictAt h b) : t ≠ b := by
  rintro rfl
  obtain ⟨vs, ⟨o, e, _, n, hd⟩, _⟩ := p
  obtain ⟨o', es, n', e', hd'⟩ := d
  rw [e] at e'
  cases e'
  rw [hd] at hd'
  cases hd'
theorem TupOf.ne_lst {h : Heap} {t b xs its} (p : TupOf h t xs) (d : h.PlainList b its) : t ≠ b := by
  rintro rfl
  obtain ⟨vs, ⟨o, e, hc, n, hd⟩, _⟩ := p
  obtain ⟨n', e'⟩ := d
  rw [e] at e'
  cases e'
  exact cls_ne (by decide) hc
theorem TupOf.kd {h h' : Heap} {t b xs} (k : KpB [b] h h') (p : TupOf h t xs) (d : DictAt h b) : TupOf h' t xs := p.at' fun o e => k _ o (fun hm => p.ne_dictAt d (List.mem_singleton.mp hm)) e
theorem TupOf.kl {h h' : Heap} {t b xs its} (k : KpB [b] h h') (p : TupOf h t xs) (d : h.PlainList b its) : TupOf h' t xs := p.at' fun o e => k _ o (fun hm => p.ne_lst d (List.mem_singleton.mp hm)) e
theorem TupAt.kd {h h' : Heap} {v b o} (k : KpB [b] h h') (p : TupAt h v o) (d : DictAt h b) : TupAt h' v o := by
  cases o with
  | none => exact p
  | some As => obtain ⟨t, e, q⟩ := p; exact ⟨t, e, q.kd k d⟩
theorem TupAt.kl {h h' : Heap} {v b o its} (k : KpB [b] h h') (p : TupAt h v o) (d : h.PlainList b its) : TupAt h' v o := by
  cases o with
  | none => exact p
  | some As => obtain ⟨t, e, q⟩ := p; exact ⟨t, e, q.kl k d⟩
theorem PolAt.kl {h h' : Heap} {x dx bt al b its} (k : KpB [b] h h') (p : PolAt h x dx bt al) (d : h.PlainList b its) : PolAt h' x dx bt al :=
  let q := p; let ⟨es, n, a, c, r⟩ := p
  ⟨es, n, k _ _ (fun hm => lst_ne_pol d q (List.mem_singleton.mp hm)) a, k _ _ (fun hm => (DictAt.ofPol q).ne_lst d (List.mem_singleton.mp hm).symm) c, r⟩
theorem PolAt.kd {h h' : Heap} {x dx bt al b} (k : KpB [b] h h') (p : PolAt h x dx bt al) (hb : dx ≠ b) (d : DictAt h b) : PolAt h' x dx bt al := by
  obtain ⟨es, n, a, c, r⟩ := p
  refine ⟨es, n, k _ _ (fun hm => ?_) a, k _ _ (fun hm => hb (List.mem_singleton.mp hm)) c, r⟩
  obtain ⟨o, es', n', e, hd⟩ := d
  rw [← List.mem_singleton.mp hm, a] at e
  cases e
  cases hd
/-- all that the law's loop holds -/
structure WF (h : Heap) (x dx y dy g q : Addr) (tb : Addr) (al : Value) (tx : List Str) (ta : Option (List Str)) (gs : List Str) (ms : List Lab) (b : Addr) (bs : List Lab) (av : Value) (as : Option (List Lab)) (t3 : Addr) : Prop where
  pol : PolAt h x dx (.ref tb) al
  tup : TupOf h tb tx
  tal : TupAt h al ta
  giv : PLst h g gs
  mea : RowsO h [g, q] q ms
  blo : RowsO h [g, q] b bs
  bn : b ∉ [g, q]
  alw : AvO h [g, q] av as
  thi : PolAt h y dy (.ref t3) .none
  th3 : TupOf h t3 []
  gq : g ≠ q
  dd : dx ≠ dy
section
variable {h h' : Heap} {x dx y dy g q tb : Addr} {al : Value} {tx : List Str} {ta : Option (List Str)} {gs : List Str} {ms : List Lab} {b : Addr} {bs : List Lab} {av : Value} {as : Option (List Lab)} {t3 : Addr} (W : WF h x dx y dy g q tb al tx ta gs ms b bs av as t3)
include W
theorem WF.kw (k : KpW dx dy h h') : WF h' x dx y dy g q tb al tx ta gs ms b bs av as t3 :=
  ⟨W.pol.kwX k, W.tup.kw k, W.tal.kw k, W.giv.kw k, W.mea.kw k, W.blo.kw k, W.bn, W.alw.kw k, W.thi.kwY k, W.th3.kw k, W.gq, W.dd⟩
theorem WF.kp (k : Kp h h') : WF h' x dx y dy g q tb al tx ta gs ms b bs av as t3 := W.kw (.of k)
theorem WF.appQ {ms' : List Lab} (k : KpB [q] h h') (hm : RowsO h' [g, q] q ms') : WF h' x dx y dy g q tb al tx ta gs ms' b bs av as t3 := by
  obtain ⟨vs, hq, _⟩ := id W.mea
  exact ⟨W.pol.kl k hq, W.tup.kl k hq, W.tal.kl k hq, let ⟨us, e, r⟩ := W.giv; ⟨us, e.at fun o e => k _ o (fun hm => W.gq (List.mem_singleton.mp hm)) e, r⟩, hm,
    W.blo.kb k (fun e => W.bn (by rw [e]; exact .tail _ (.head _))) (.tail _ (.head _)), W.bn, W.alw.kb k (.tail _ (.head _)), W.thi.kl k hq, W.th3.kl k hq, W.gq, W.dd⟩
theorem WF.appG {gs' : List Str} (k : KpB [g] h h') (hg : PLst h' g gs') : WF h' x dx y dy g q tb al tx ta gs' ms b bs av as t3 := by
  obtain ⟨vs, hq, _⟩ := id W.giv
  exact ⟨W.pol.kl k hq, W.tup.kl k hq, W.tal.kl k hq, hg, W.mea.kb k W.gq.symm (.head _),
    W.blo.kb k (fun e => W.bn (by rw [e]; exact .head _)) (.head _), W.bn, W.alw.kb k (.head _), W.thi.kl k hq, W.th3.kl k hq, W.gq, W.dd⟩
theorem WF.setP {tb' : Addr} {al' : Value} {tx' : List Str} {ta' : Option (List Str)} (k : KpB [dx] h h') (hp : PolAt h' x dx (.ref tb') al') (ht : TupOf h' tb' tx') (ha : TupAt h' al' ta') :
    WF h' x dx y dy g q tb' al' tx' ta' gs ms b bs av as t3 := by
  have d := DictAt.ofPol W.pol
  exact ⟨hp, ht, ha, let ⟨us, e, r⟩ := W.giv; ⟨us, e.at fun o e' => k _ o (fun hm => d.ne_lst e (List.mem_singleton.mp hm)) e', r⟩, W.mea.kd k d, W.blo.kd k d, W.bn, W.alw.kd k d, W.thi.kd k (Ne.symm W.dd) d, W.th3.kd k d, W.gq, W.dd⟩
theorem WF.newB {b' : Addr} {bs' : List Lab} (hb : RowsO h [g, q] b' bs') (hn : b' ∉ [g, q]) : WF h x dx y dy g q tb al tx ta gs ms b' bs' av as t3 := { W with blo := hb, bn := hn }
theorem WF.newA {av' : Value} {as' : Option (List Lab)} (ha : AvO h [g, q] av' as') : WF h x dx y dy g q tb al tx ta gs ms b bs av' as' t3 := { W with alw := ha }
end
end Mine
end
section
open PySem PySem.W PyProof.Rows PySem.Calls
namespace Mine
theorem rows_of_paired {h : Heap} {R : Value → Value → Prop} (hR : ∀ v y, R v y → ∃ T its n t, y = .ref T ∧ v = .int n t ∧ h.IsList T its ∧ StrsAre its.toList (labelsOf n)) {vs ys : List Value} (p : Paired R vs ys) :
    ∃ Ls, RowsAre h ys Ls ∧ Ls.length = vs.length ∧ ∀ L ∈ Ls, L ∈ allL := by
  induction p with
  | nil => exact ⟨[], .nil, rfl, fun _ h => by cases h⟩
  | cons f _ ih =>
    obtain ⟨T, its, n, t, rfl, rfl, hl, hs⟩ := hR _ _ f
    obtain ⟨Ls, r, hlen, hall⟩ := ih
    refine ⟨labelsOf n :: Ls, .cons ⟨its.toList, by simpa using hl, hs⟩ r, by simp [hlen], fun L hL => ?_⟩
    rcases List.mem_cons.mp hL with e | hL
    · rw [e]; exact labels_mem n
    · exact hall L hL
set_option maxHeartbeats 2000000 in
/-- hosts = [_law_labels(n) for n in range(54)] -/
theorem hosts_comp {w : World} {mg mb} {A : Around} {s : Shared} {E : Value → Shared → Prop} {Q : Flow → Shared → Prop} {base : Heap} {L fa : Addr} {name : Str} {scope : Scope} {cd : Value} {m : Str → Option Value}
    {y : Str} {sc : Scope} {p1 p2 p3 p4 p5 p6 p7 p8 py spos : Pos} {c0}
    (G : Gd w mg mb base) (F : Fr base L s.heap m) (hA : Room 1 A)
    (h : ∀ D h' k Ls, KpB [L] s.heap h' → s.heap.get? D = none → RowsAt h' D Ls → Ls.length = 54 → (∀ x ∈ Ls, x ∈ allL) → Fr base L h' (fun z => if z = y then some (.ref D) else m z) → Q .next { s with heap := h', toks := k })
    (hclos : closureFor sc (envOf name scope L fa cd) = pure [])
    (hcell : ∀ y ∈ sc.names, y.2 ≠ .cell) (hkind : sc.kind = .function)
    (hnames : ∀ y ∈ sc.names, y.2 = .local → sc.names.lookup y.1 = some .local) (hx : sc.names.lookup (Str.ofString "n") = some .local)
    (hk : scope.kind = .function) (hy : (envOf name scope L fa cd).kindOf y = some .local) (hr : (envOf name scope L fa cd).kindOf (Str.ofString "range") = some .globalImplicit)
    (k2 : ∀ C, (compEnvC sc [] C (envOf name scope L fa cd)).kindOf (Str.ofString "n") = some .local)
    (k3 : ∀ C, (compEnvC sc [] C (envOf name scope L fa cd)).kindOf (Str.ofString "_law_labels") = some .globalImplicit)
    (hsw : swapsWith (.ListComp (.Call (.Name (Str.ofString "_law_labels") p1) [.Name (Str.ofString "n") p2] [] p3) [⟨.Name (Str.ofString "n") p4, .Call (.Name (Str.ofString "range") p5) [.Constant (.int 54) c0 p6] [] p7, [], 0⟩] sc p8) (some (.Name y py)) spos.line (envOf name scope L fa cd) = pure true)
    (hs : ∀ x, foldedSetIterable (.Call (.Name (Str.ofString "range") p5) [.Constant (.int 54) c0 p6] [] p7) (envOf name scope L fa cd) x = pure x) :
    wpAny (model PR w) A (exec (.Assign [.Name y py] (.ListComp (.Call (.Name (Str.ofString "_law_labels") p1) [.Name (Str.ofString "n") p2] [] p3) [⟨.Name (Str.ofString "n") p4, .Call (.Name (Str.ofString "range") p5) [.Constant (.int 54) c0 p6] [] p7, [], 0⟩] sc p8) spos) (envOf name scope L fa cd)) Q E s := by
  rw [exec_Assign_Name_used _ _ _ _ hsw]
  refine wpAny_bind (wpAny_standAt (wpAny_bind ?_))
  show wpAny _ A (do let _ ← comprehension (.ListComp (.Call (.Name (Str.ofString "_law_labels") p1) [.Name (Str.ofString "n") p2] [] p3) [⟨.Name (Str.ofString "n") p4, .Call (.Name (Str.ofString "range") p5) [.Constant (.int 54) c0 p6] [] p7, [], 0⟩] sc p8) sc (envOf name scope L fa cd) _ (newList []) false (eval (.Call (.Name (Str.ofString "range") p5) [.Constant (.int 54) c0 p6] [] p7) (envOf name scope L fa cd)) (some (assign (.Name y py) (envOf name scope L fa cd)))) _ _ s
  refine wpAny_bind (wpAny_mono (wpAny_comprehension_free (use := some (assign (.Name y py) (envOf name scope L fa cd))) (Q := fun _ s' => Q .next s') rfl hs hclos hkind hnames ?_) (fun _ s' hq => wpAny_pure (wpAny_pure hq)) fun _ _ e => e)
  refine Call_ (nmB (G.keeps F.keep) (nsRange w) boot_range (by decide) (callWith_type1 (args_cons (wpAny_Constant_int (args_nil (range_call fun r h₁ k₁ u v kp₁ _ hr₁ => ?_))))) rfl rfl hk hr)
  dsimp only at kp₁ ⊢
  have hrs : Builtin.Range.rangeSize 0 (54 : Int) 1 = (54 : Nat) := by rw [rangeSize_one]; rfl
  refine wpAny_pyIter_range hr₁ (small_one (by omega) (by omega) (by omega) (by omega)) ?_
  rw [hrs]
  dsimp only
  have F₁ := F.keeps kp₁
  have hI : h₁.get? h₁.objs.size = none := none_at_size Kp.rfl
  have hIs : s.heap.get? h₁.objs.size = none := old_none kp₁ hI
  have hL₁ : L < h₁.objs.size := F₁.ns.lt
  refine comp_block_walkCO (RR := fun acc C => compPost (model PR w) A E (some (assign (.Name y py) (envOf name scope L fa cd))) (fun _ s' => Q .next s') acc C)
    (Walks.range hA.hh h₁.objs.size 0 1 54) (by have := sizeLine_eq; omega) (fun _ => true) (fun v its => ∃ n t, v = .int n t ∧ StrsAre its.toList (labelsOf n)) ?_ hcell hkind hx ?_ ?_ ⟨?_, ?_⟩ ?_
  · intro i h' hst b hb
    rw [List.mem_singleton.mp hb]
    exact ⟨_, hst⟩
  · show IsRangeIter _ _ _ _ _
    have := Heap.get?_push_size h₁ (o := { cls := .type "range_iterator", data := .fields #[rawInt 0, rawInt (54 : Nat), rawInt 1] }) rfl
    simpa using this
  · intro b hb
    rw [List.mem_singleton.mp hb]
    show _ < (Heap.push _ _).objs.size
    rw [Heap.size_push]
    exact Nat.lt_succ_self _
  · intro C i v s₃ m₃ E' _ hP hn hm hk₃ htk
    exact wpAny_pure ⟨rfl, _, s₃.toks, rfl, Kp.rfl⟩
  · rintro C i v s₃ m₃ E' _ ⟨t, rfl⟩ _ hn hm hk₃ htk
    have kp₃ : Kp base s₃.heap := fun b o e => hk₃ b o (fun hb => by
      have e' := kp₁ _ _ (F.keep _ _ e)
      rw [List.mem_singleton.mp hb, hI] at e'; cases e') (Heap.get?_push_of_some _ (kp₁ _ _ (F.keep _ _ e)))
    have G₃ := G.keeps kp₃
    refine Call_ (nmG G₃ (nsLabels w) (callWith_K G.X (kp281 w) (args_cons (nmL hn hm (args_nil ⟨G₃.X, ?_⟩) hkind (k2 C)))) rfl hkind (k3 C))
    refine labels_call G₃ hA fun T h₄ k₄ kp₄ hT hl => ?_
    obtain ⟨vs, hl, hss⟩ := hl
    exact ⟨⟨T, vs.toArray, rfl, hT, hl, _, t, rfl, by simpa using hss⟩, h₄, k₄, rfl, kp₄⟩
  · intro D C h' tk m' ys vs hD hC hDC hnC hlD hplD hlen hP hF _ hk₃
    have kpL : ∀ b o, s.heap.get? b = some o → h'.get? b = some o := fun b o e => hk₃ b o (fun hb => by rw [List.mem_singleton.mp hb, hIs] at e; cases e) (Heap.get?_push_of_some _ (kp₁ _ _ e))
    have hsn : ∀ T, (h₁.push { cls := .type "range_iterator", data := .fields #[rawInt 0, rawInt (54 : Nat), rawInt 1] }).get? T = none → s.heap.get? T = none := fun T hT => old_none kp₁ (old_none (fun b o e => Heap.get?_push_of_some _ e) hT)
    have hLC : L ≠ C := ne_new_ns F.ns (hsn C hC)
    have hLD : L ≠ D := ne_new_ns F.ns (hsn D hD)
    show wpAny _ A (assign (.Name y py) (envOf name scope L fa cd) (.ref D)) _ _ _
    refine wpAny_assign_Name (stS (F.keeps kpL) (fun h₅ F₅ sb₅ => ?_) hk hy)
    refine ⟨m', hnC.sameBut sb₅ (Ne.symm hLC), fun h₆ hs₆ => ?_⟩
    dsimp only at hs₆ sb₅ ⊢
    have hfilter : (List.filter (fun _ : Value => true) vs) = vs := List.filter_eq_self.mpr fun _ _ => rfl
    rw [hfilter] at hF
    have hF₆ : Paired (fun v y => ∃ T its n t, y = .ref T ∧ v = .int n t ∧ h₆.IsList T its ∧ StrsAre its.toList (labelsOf n)) vs ys.toList := hF.mono fun v y hy => by
      obtain ⟨T, its, rfl, h1, hTC, _, _, hlT, n, t, rfl, hss⟩ := hy
      have hTL : T ≠ L := fun e => ne_new_ns F.ns (hsn T h1) e.symm
      exact ⟨T, its, n, t, rfl, rfl, (hlT.extBut sb₅.extBut hTL).extBut hs₆.extBut hTC, hss⟩
    obtain ⟨Ls, hrows, hLlen, hall⟩ := rows_of_paired (fun _ _ x => x) hF₆
    refine h D h₆ _ Ls (fun b o hb e => hs₆.extBut b o (fun q => by rw [q, hsn C hC] at e; cases e) (sb₅.extBut b o (fun q => hb (by rw [q]; exact .head _)) (kpL b o e))) (hsn D hD) ⟨ys.toList, ?_, hrows⟩ (hLlen.trans hlen) hall ?_
    · have := (hplD.extBut sb₅.extBut (Ne.symm hLD)).extBut hs₆.extBut hDC
      simpa using this
    · refine ⟨F₅.ns.sameBut hs₆ hLC, fun b o e => hs₆.extBut b o (fun q => ?_) (F₅.keep b o e), F₅.above⟩
      have := F.keep _ _ e
      rw [q, hsn C hC] at this
      cases this
end Mine
end
section
open PySem PySem.W PyProof.Rows PySem.Calls
namespace Mine
section
variable (w : World)
theorem kp129 : keepIn (hd.heap_39 w.params) (.ref 129) = true := by k_is
theorem kp150 : keepIn (hd.heap_39 w.params) (.ref 150) = true := by k_is
theorem pg129 : plainGet (hd.heap_39 w.params) 272 (Str.ofString "set_blocked_domains") = true := by k_is
theorem pg150 : plainGet (hd.heap_39 w.params) 272 (Str.ofString "set_allowed_domains") = true := by k_is
theorem fi129 : findIn (hd.heap_39 w.params) (.ref 272) (Str.ofString "set_blocked_domains") = some (some (.ref 129)) := by k_is
theorem fi150 : findIn (hd.heap_39 w.params) (.ref 272) (Str.ofString "set_allowed_domains") = some (some (.ref 150)) := by k_is
theorem if129 : isFn (hd.heap_39 w.params) (.ref 129) = true := by k_is
theorem if150 : isFn (hd.heap_39 w.params) (.ref 150) = true := by k_is
end
theorem ints_get {vs : List Value} {ns : List Int} (h : IntsAre vs ns) : ∀ v ∈ vs, ∃ n t, v = .int n t := by
  induction h with
  | nil => intro v hv; cases hv
  | cons n t _ ih =>
    intro v hv
    rcases List.mem_cons.mp hv with e | hv
    · exact ⟨n, t, e⟩
    · exact ih v hv
/-- the law's own names -/
structure LM (m : Str → Option Value) (x y g q b : Addr) (av : Value) : Prop where
  p : m (Str.ofString "policy") = some (.ref x)
  t : m (Str.ofString "third") = some (.ref y)
  g : m (Str.ofString "given") = some (.ref g)
  q : m (Str.ofString "meant") = some (.ref q)
  b : m (Str.ofString "blocked") = some (.ref b)
  a : m (Str.ofString "allowed") = some av
def sixN : List Str := [Str.ofString "policy", Str.ofString "third", Str.ofString "given", Str.ofString "meant", Str.ofString "blocked", Str.ofString "allowed"]
theorem LM.set {m : Str → Option Value} {x y g q b : Addr} {av : Value} (k : LM m x y g q b av) {n : Str} {v : Value} (h : n ∉ sixN) : LM (fun z => if z = n then some v else m z) x y g q b av := by
  have ne : ∀ z ∈ sixN, ¬ z = n := fun z hz e => h (e ▸ hz)
  exact ⟨(if_neg (ne _ (by decide))).trans k.p, (if_neg (ne _ (by decide))).trans k.t, (if_neg (ne _ (by decide))).trans k.g, (if_neg (ne _ (by decide))).trans k.q, (if_neg (ne _ (by decide))).trans k.b, (if_neg (ne _ (by decide))).trans k.a⟩
theorem LM.setB {m : Str → Option Value} {x y g q b b' : Addr} {av : Value} (k : LM m x y g q b av) : LM (fun z => if z = Str.ofString "blocked" then some (.ref b') else m z) x y g q b' av :=
  ⟨(if_neg (by decide)).trans k.p, (if_neg (by decide)).trans k.t, (if_neg (by decide)).trans k.g, (if_neg (by decide)).trans k.q, if_pos rfl, (if_neg (by decide)).trans k.a⟩
theorem LM.setA {m : Str → Option Value} {x y g q b : Addr} {av av' : Value} (k : LM m x y g q b av) : LM (fun z => if z = Str.ofString "allowed" then some av' else m z) x y g q b av' :=
  ⟨(if_neg (by decide)).trans k.p, (if_neg (by decide)).trans k.t, (if_neg (by decide)).trans k.g, (if_neg (by decide)).trans k.q, (if_neg (by decide)).trans k.b, if_pos rfl⟩
/-- addresses that stay apart -/
structure Ap (base : Heap) (L dx dy g q : Addr) : Prop where
  Lx : L ≠ dx
  Ly : L ≠ dy
  nx : base.get? dx = none
  ng : base.get? g = none
  nq : base.get? q = none
theorem RowsAre.snoc {h : Heap} {vs : List Value} {Ls : List Lab} {a : Addr} {L : Lab} (r : RowsAre h vs Ls) (p : LstOf h a L) : RowsAre h (vs ++ [.ref a]) (Ls ++ [L]) := by
  induction r with
  | nil => exact .cons p .nil
  | cons q _ ih => exact .cons q ih
theorem alAt_of {h : Heap} {al : Value} {as : Option (List Lab)} (p : TupAt h al (as.map (·.map dom))) : AlAt h al as := by
  cases as with
  | none => exact p
  | some As => exact p
theorem KpB.m1 {a : Addr} {wr : List Addr} {h h' : Heap} (k : KpB [a] h h') (ha : a ∈ wr) : KpB wr h h' := k.mono fun b hb => by rw [List.mem_singleton.mp hb]; exact ha
theorem Fr.b1 {h₀ h h' : Heap} {L a : Addr} {m : Str → Option Value} (F : Fr h₀ L h m) (k : KpB [a] h h') (ha : h₀.get? a = none) (hL : L ≠ a) : Fr h₀ L h' m :=
  Fr.step F k (fun b hb => by rw [List.mem_singleton.mp hb]; exact ha) fun hb => hL (List.mem_singleton.mp hb)
theorem RowsAre.take {h : Heap} {vs : List Value} {Ls : List Lab} (r : RowsAre h vs Ls) : ∀ k, RowsAre h (vs.take k) (Ls.take k) := by
  induction r with
  | nil => intro k; simp; exact .nil
  | cons p _ ih => intro k; cases k with | zero => exact .nil | succ k => exact .cons p (ih k)
theorem ArgAt.kw {h h' : Heap} {dx dy v o} (k : KpW dx dy h h') (p : ArgAt h v o) : ArgAt h' v o := by
  cases o with
  | none => exact p
  | some xs => obtain ⟨l, e, q, z⟩ := p; exact ⟨l, e, q.kw k, z⟩
theorem ArgAt.keeps {h h' : Heap} {v o} (k : Kp h h') (p : ArgAt h v o) : ArgAt h' v o := by
  cases o with
  | none => exact p
  | some xs => obtain ⟨l, e, q, z⟩ := p; exact ⟨l, e, q.keeps k, z⟩
theorem TupAt.keeps {h h' : Heap} {v o} (k : Kp h h') (p : TupAt h v o) : TupAt h' v o := by
  cases o with
  | none => exact p
  | some xs => obtain ⟨l, e, q⟩ := p; exact ⟨l, e, q.keeps k⟩
theorem RowsAt.kd {h h' : Heap} {r Ls} {b : Addr} (k : KpB [b] h h') (p : RowsAt h r Ls) (d : DictAt h b) : RowsAt h' r Ls :=
  let ⟨vs, x, y⟩ := p; ⟨vs, x.at fun o e => k _ o (fun hm => d.ne_lst x (List.mem_singleton.mp hm)) e, y.kb k fun a ha hm => row_ne d y a ha (List.mem_singleton.mp hm)⟩
end Mine
end
section
open PySem PySem.W PyProof.Rows PySem.Calls
namespace Mine
set_option maxHeartbeats 16000000 in
theorem law_proved : PySem.Challenge.rw_ko0037_07.Holds := by
  refine Mine.hd ?_
  k_go0
  rename Frag.In _ _ => KX
  rename Top _ _ _ _ _ _ => T
  rename IntsAre _ _ => hI
  rename Heap.IsList _ _ _ => hL
  rename Fr _ _ _ _ => F
  rename Shared.gens _ = _ => hgn
  rename ¬ _ => hlen
  rename Shared => s₁
  rename World => w
  refine wpAny_mono (Q := fun fl s' => fl = .ret (.bool true) ∧ ∃ h' k m, s' = { s₁ with heap := h', toks := k } ∧ Fr s₁.heap s₁.heap.objs.size h' m) (E := NoE) ?_ (fun fl s' q => ?_) (fun _ _ e => e.elim)
  rotate_left
  · obtain ⟨rfl, h', k, m', rfl, FE⟩ := q
    dsimp only
    refine goodW_bool FE hgn (raisesW_false ?_) ?_
    · wrow_none_raised
    · first | kc_post | wrow_post
  have G : Gd w _ _ s₁.heap := ⟨KX, topRead_of T⟩
  have hA : ∀ env, Room 6 (callerA.deeper env) := fun env => ⟨by show callerA.depth + 1 + 3 * 6 < recursionLimit; decide, by show callerA.units + 3 + 20 * 6 < cLine; decide, rfl⟩
  have hsz := hI.length
  obtain ⟨oL, hoL, qL⟩ := id hL
  -- script = script[:10]
  refine wpAny_execs_cons (wpAny_Assign_Name (slice_mine (ld F rfl (wpAny_evalPart_none (wpAny_evalPart_some (wpAny_Constant_int ⟨_, _, none, some 10, rfl, ⟨oL, F.keep _ _ hoL, qL⟩, ?_, .none, .int _ _, fun sl h₂ kp₂ hnr hr => ?_⟩))))))
  · rw [List.size_toArray, hsz]; omega
  rw [show (some (10 : Int)) = some ((10 : Nat) : Int) from rfl, slicePick_upto'] at hr
  dsimp only at kp₂ hnr ⊢
  obtain ⟨us, hus, hul, huint⟩ : ∃ us : List Value, h₂.PlainList sl us.toArray ∧ us.length ≤ 10 ∧ ∀ v ∈ us, ∃ n t, v = .int n t := ⟨_, hr, by simp only [List.length_take]; omega, fun v hv => ints_get hI v (List.mem_of_mem_take (by simpa using hv))⟩
  clear hr
  have F₂ := F.keeps kp₂
  refine stS F₂ fun h₃ F₃ sb₃ => ?_
  have hus₃ : h₃.PlainList sl us.toArray := hus.extBut sb₃.extBut (ne_of_seq_ns hus F₂.ns)
  have hsn : s₁.heap.get? sl = none := old_none F.keep hnr
  dsimp only at F₃ ⊢
  clear hus sb₃ F₂ kp₂ F hnr
  -- policy, third = (DefaultCookiePolicy(), DefaultCookiePolicy())
  refine wpAny_execs_cons (Assign_Tuple_swapped (names := [Str.ofString "policy", Str.ofString "third"]) (Tuple_ (args_cons (Call_ (name_K F₃ G.X G.T (nsPol w) (callWith_K0 (G.X.keeps F₃.keep) (kp272 w) ?_))))) rfl rfl)
  refine new_call (kw := []) (bv := .none) (av := .none) (bx := none) (ax := none) (G.keeps F₃.keep) ((hA _).less (by omega)) (.inl ⟨rfl, rfl, rfl⟩) rfl rfl fun h₄ k₄ x dx tb al kp₄ hx₄ hdx₄ hp₄ htb₄ hal₄ => ?_
  obtain rfl : al = .none := hal₄
  dsimp only at kp₄ hx₄ hdx₄ ⊢
  have F₄ := F₃.keeps kp₄
  refine args_cons (Call_ (name_K F₄ G.X G.T (nsPol w) (callWith_K0 (G.X.keeps F₄.keep) (kp272 w) ?_)))
  refine new_call (kw := []) (bv := .none) (av := .none) (bx := none) (ax := none) (G.keeps F₄.keep) ((hA _).less (by omega)) (.inl ⟨rfl, rfl, rfl⟩) rfl rfl fun h₅ k₅ y dy t3 al kp₅ hy₅ hdy₅ hp₅ htb₅ hal₅ => ?_
  obtain rfl : al = .none := hal₅
  dsimp only at kp₅ hy₅ hdy₅ ⊢
  have F₅ := F₄.keeps kp₅
  refine args_nil (newT (fun t h₆ kp₆ _ ht₆ => ?_) (by show 2 ≤ 1000; omega))
  dsimp only at kp₆ ⊢
  refine wpAny_unpackItems_tuple (items := [Value.ref x, .ref y].toArray) (by rfl) ⟨_, ht₆, rfl, _, rfl⟩ fun h₇ eb₇ => ?_
  have kp₇ : Kp h₆ h₇ := fun b o e => eb₇ b o (fun q => by rw [q] at e; exact absurd (Heap.lt_size e) (Nat.lt_irrefl _)) e
  have F₇ := (F₅.keeps kp₆).keeps kp₇
  have hLx : s₁.heap.objs.size ≠ dx := ne_new_ns F₃.ns hdx₄
  have hLy : s₁.heap.objs.size ≠ dy := ne_new_ns F₄.ns hdy₅
  have hxy : dx ≠ dy := by
    obtain ⟨_, _, _, e, _⟩ := hp₄
    exact ne_of_new e hdy₅
  have px : PolAt h₇ x dx (.ref tb) .none := ((hp₄.keeps kp₅).keeps kp₆).keeps kp₇
  have py : PolAt h₇ y dy (.ref t3) .none := (hp₅.keeps kp₆).keeps kp₇
  have tx : TupOf h₇ tb [] := ((htb₄.keeps kp₅).keeps kp₆).keeps kp₇
  have ty : TupOf h₇ t3 [] := (htb₅.keeps kp₆).keeps kp₇
  have hus₇ : h₇.PlainList sl us.toArray := hus₃.at fun o e => kp₇ _ _ (kp₆ _ _ (kp₅ _ _ (kp₄ _ _ e)))
  have ndx : s₁.heap.get? dx = none := old_none F₃.keep hdx₄
  clear hus₃ F₃ F₄ F₅ kp₄ kp₅ kp₆ kp₇ eb₇ ht₆ hp₄ hp₅ htb₄ htb₅ hx₄ hy₅ hdx₄ hdy₅
  refine assignInOrder_cons (bindName_ (stS F₇ fun h₈ F₈ sb₈ => ?_))
  have k₈ := KpW.ofD (dx := dx) (dy := dy) (KpB.same sb₈) (DictAt.ofNs F₇.ns) hLx hLy
  dsimp only at F₈ ⊢
  refine assignInOrder_cons (bindName_ (stS F₈ fun h₉ F₉ sb₉ => ?_))
  have k₉ := KpW.ofD (dx := dx) (dy := dy) (KpB.same sb₉) (DictAt.ofNs F₈.ns) hLx hLy
  dsimp only at F₉ ⊢
  refine assignInOrder_nil ?_
  replace px := (px.kwX k₈).kwX k₉
  replace py := (py.kwY k₈).kwY k₉
  replace tx := (tx.kw k₈).kw k₉
  replace ty := (ty.kw k₈).kw k₉
  have hus₉ : h₉.PlainList sl us.toArray := plain_kw k₉ (plain_kw k₈ hus₇)
  clear hus₇ F₇ F₈ k₈ k₉ sb₈ sb₉
  -- given, meant, blocked, allowed = ([], [], [], None)
  refine wpAny_execs_cons (Assign_Tuple (Tuple_ (args_cons (List_ (args_nil (newL (fun g h₁₀ kp₁₀ ng hg₁₀ => ?_) (by show 0 ≤ 1000; omega)))))) rfl rfl)
  dsimp only at kp₁₀ ng ⊢
  refine args_cons (List_ (args_nil (newL (fun q h₁₁ kp₁₁ nq hq₁₁ => ?_) (by show 0 ≤ 1000; omega))))
  dsimp only at kp₁₁ nq ⊢
  refine args_cons (List_ (args_nil (newL (fun b h₁₂ kp₁₂ nb hb₁₂ => ?_) (by show 0 ≤ 1000; omega))))
  dsimp only at kp₁₂ nb ⊢
  refine args_cons (Constant_none (args_nil (newT (fun t' h₁₃ kp₁₃ _ ht₁₃ => ?_) (by show 4 ≤ 1000; omega))))
  dsimp only at kp₁₃ ⊢
  refine wpAny_assign_Tuple (items := [Value.ref g, .ref q, .ref b, .none].toArray) (by rfl) ⟨_, ht₁₃, rfl, _, rfl⟩ rfl rfl fun h₁₄ eb₁₄ => ?_
  have kp₁₄ : Kp h₁₃ h₁₄ := fun b o e => eb₁₄ b o (fun q => by rw [q] at e; exact absurd (Heap.lt_size e) (Nat.lt_irrefl _)) e
  have hgq : g ≠ q := ne_new_lst hg₁₀ nq
  have hgb : g ≠ b := ne_new_lst (hg₁₀.at fun o e => kp₁₁ _ _ e) nb
  have hqb : q ≠ b := ne_new_lst hq₁₁ nb
  have ap : Ap s₁.heap s₁.heap.objs.size dx dy g q := ⟨hLx, hLy, ndx, old_none F₉.keep ng, old_none (Kp.trans F₉.keep kp₁₀) nq⟩
  have hsg : sl ≠ g := ne_new_lst hus₉ ng
  have hsq : sl ≠ q := ne_new_lst (hus₉.at fun o e => kp₁₀ _ _ e) nq
  have kpa : Kp h₉ h₁₄ := Kp.trans kp₁₀ (Kp.trans kp₁₁ (Kp.trans kp₁₂ (Kp.trans kp₁₃ kp₁₄)))
  have W : WF h₁₄ x dx y dy g q tb .none [] none [] [] b [] .none none t3 := by
    refine ⟨px.keeps kpa, tx.keeps kpa, rfl, ⟨[], hg₁₀.at fun o e => kp₁₄ _ _ (kp₁₃ _ _ (kp₁₂ _ _ (kp₁₁ _ _ e))), .nil⟩, ⟨[], hq₁₁.at fun o e => kp₁₄ _ _ (kp₁₃ _ _ (kp₁₂ _ _ e)), .nil, fun _ h => by cases h⟩, ⟨[], hb₁₂.at fun o e => kp₁₄ _ _ (kp₁₃ _ _ e), .nil, fun _ h => by cases h⟩, ?_, rfl, py.keeps kpa, ty.keeps kpa, hgq, hxy⟩
    intro hm
    rcases List.mem_cons.mp hm with e | hm
    · exact hgb e.symm
    · exact hqb (List.mem_singleton.mp hm).symm
  have F₁₄ := F₉.keeps kpa
  have hus₁₄ : h₁₄.PlainList sl us.toArray := hus₉.at fun o e => kpa _ _ e
  clear px py tx ty hus₉ kpa kp₁₀ kp₁₁ kp₁₂ kp₁₃ kp₁₄ eb₁₄ ht₁₃ hg₁₀ hq₁₁ hb₁₂ hgb hqb ng nq nb F₉
  refine assignInOrder_cons (assign_Name (stS F₁₄ fun h₁₅ F₁₅ sb₁₅ => ?_))
  have k₁₅ := KpW.ofD (dx := dx) (dy := dy) (KpB.same sb₁₅) (DictAt.ofNs F₁₄.ns) hLx hLy
  dsimp only at F₁₅ ⊢
  refine assignInOrder_cons (assign_Name (stS F₁₅ fun h₁₆ F₁₆ sb₁₆ => ?_))
  have k₁₆ := KpW.ofD (dx := dx) (dy := dy) (KpB.same sb₁₆) (DictAt.ofNs F₁₅.ns) hLx hLy
  dsimp only at F₁₆ ⊢
  refine assignInOrder_cons (assign_Name (stS F₁₆ fun h₁₇ F₁₇ sb₁₇ => ?_))
  have k₁₇ := KpW.ofD (dx := dx) (dy := dy) (KpB.same sb₁₇) (DictAt.ofNs F₁₆.ns) hLx hLy
  dsimp only at F₁₇ ⊢
  refine assignInOrder_cons (assign_Name (stS F₁₇ fun h₁₈ F₁₈ sb₁₈ => ?_))
  have k₁₈ := KpW.ofD (dx := dx) (dy := dy) (KpB.same sb₁₈) (DictAt.ofNs F₁₇.ns) hLx hLy
  dsimp only at F₁₈ ⊢
  refine assignInOrder_nil ?_
  replace W := (((W.kw k₁₅).kw k₁₆).kw k₁₇).kw k₁₈
  have hus₁₈ : h₁₈.PlainList sl us.toArray := plain_kw k₁₈ (plain_kw k₁₇ (plain_kw k₁₆ (plain_kw k₁₅ hus₁₄)))
  obtain ⟨m₀, F₀, lm₀, hscr⟩ : ∃ m, Fr s₁.heap s₁.heap.objs.size h₁₈ m ∧ LM m x y g q b .none ∧ m (Str.ofString "script") = some (.ref sl) := ⟨_, F₁₈, ⟨rfl, rfl, rfl, rfl, rfl, rfl⟩, rfl⟩
  clear k₁₅ k₁₆ k₁₇ k₁₈ sb₁₅ sb₁₆ sb₁₇ sb₁₈ F₁₅ F₁₆ F₁₇ F₁₈ F₁₄ hus₁₄ hLx hLy hxy ndx
  -- for x in script
  generalize hwr : [s₁.heap.objs.size, dx, g, q] = wr
  have wL : s₁.heap.objs.size ∈ wr := by rw [← hwr]; exact .head _
  have wx : dx ∈ wr := by rw [← hwr]; exact .tail _ (.head _)
  have wg : g ∈ wr := by rw [← hwr]; exact .tail _ (.tail _ (.head _))
  have wq : q ∈ wr := by rw [← hwr]; exact .tail _ (.tail _ (.tail _ (.head _)))
  refine wpAny_execs_cons (wpAny_For (ld F₀ hscr ?_))
  refine for_seqG (by rfl) (.inr hus₁₈.isList) wr ?_ (fun i s' => ∃ h k m tb al ms b bs av as, s' = { s₁ with heap := h, toks := k } ∧ Fr s₁.heap s₁.heap.objs.size h m ∧ LM m x y g q b av ∧
      WF h x dx y dy g q tb al (List.map dom bs) (Option.map (List.map dom) as) (List.map dom ms) ms b bs av as t3 ∧ ms.length ≤ i ∧ bs.length ≤ 1000 ∧ (∀ L ∈ ms, L ∈ allL) ∧ (∀ L ∈ bs, L ∈ allL) ∧ inAl as)
    ⟨h₁₈, _, m₀, tb, .none, [], b, [], .none, none, rfl, F₀, lm₀, W, Nat.zero_le _, Nat.zero_le _, (fun _ h => by cases h), (fun _ h => by cases h), trivial⟩ ?_ ?_ ?_ (fun _ _ q => q)
  · intro c hc
    rw [← hwr] at hc
    rcases List.mem_cons.mp hc with e | hc
    · rw [e]; exact ⟨F₀.ns.lt, (ne_of_seq_ns hus₁₈ F₀.ns).symm⟩
    rcases List.mem_cons.mp hc with e | hc
    · rw [e]
      have d := DictAt.ofPol W.pol
      obtain ⟨o, _, _, e', _⟩ := id d
      exact ⟨Heap.lt_size e', (d.ne_lst hus₁₈).symm⟩
    rcases List.mem_cons.mp hc with e | hc
    · rw [e]; obtain ⟨_, ⟨_, e'⟩, _⟩ := W.giv; exact ⟨Heap.lt_size e', hsg.symm⟩
    · rw [List.mem_singleton.mp hc]; obtain ⟨_, ⟨_, e'⟩, _⟩ := W.mea; exact ⟨Heap.lt_size e', hsq.symm⟩
  · rintro i s' I h' tk ⟨h, k, m, tb, al, ms, b, bs, av, as, rfl, F, lm, W, z1, z2, a1, a2, a3⟩ hIn kb kx
    exact ⟨h', tk, m, tb, al, ms, b, bs, av, as, rfl, Fr.b1 F kb (old_none F₀.keep hIn) (ne_new_ns F₀.ns hIn), lm, W.kw (.ofX kx), z1, z2, a1, a2, a3⟩
  · rintro i v s' hvi ⟨h, k, m, tb, al, ms, b, bs, av, as, rfl, F, lm, W, z1, z2, a1, a2, a3⟩
    have hiu : i < us.length := by
      have := Array.getElem?_eq_some_iff.mp hvi
      obtain ⟨hlt, _⟩ := this
      simpa using hlt
    obtain ⟨nx, tx, rfl⟩ := huint v (by
      have := List.mem_of_getElem? (l := us) (i := i) (a := v) (by simpa using hvi)
      exact this)
    refine wpAny_assign_Name (stS F fun h₂ F₂ sb₂ => ?_)
    replace W := W.kw (KpW.ofD (KpB.same sb₂) (DictAt.ofNs F.ns) ap.Lx ap.Ly)
    replace lm := lm.set (n := Str.ofString "x") (v := .int nx tx) (by decide)
    dsimp only at F₂ ⊢
    refine wpAny_execs_cons (wpAny_Assign_Name (wpAny_BinOp (ld F₂ (if_pos rfl) (wpAny_Constant_int (floordiv_int (by decide) (stS F₂ fun h₃ F₃ sb₃ => ?_))))))
    replace W := W.kw (KpW.ofD (KpB.same sb₃) (DictAt.ofNs F₂.ns) ap.Lx ap.Ly)
    dsimp only at F₃ ⊢
    obtain ⟨m₃, F₃, lm₃, hx₃, tn, hn₃⟩ : ∃ m', Fr s₁.heap s₁.heap.objs.size h₃ m' ∧ LM m' x y g q b av ∧ m' (Str.ofString "x") = some (.int nx tx) ∧ ∃ tn, m' (Str.ofString "n") = some (.int (Int.fdiv nx 5) tn) :=
      ⟨_, F₃, lm.set (by decide), (if_neg (by decide)).trans (if_pos rfl), _, if_pos rfl⟩
    have kb₃ : KpB wr h h₃ := ((KpB.same sb₂).m1 wL).trans ((KpB.same sb₃).m1 wL)
    generalize Int.fdiv nx 5 = nn at hn₃
    clear lm F₂ F sb₂ sb₃ hvi
    refine wpAny_execs_cons (wpAny_mono (Q := fun f s' => f = .next ∧ ∃ h' k' m' tb' al' ms' b' bs' av' as', s' = { s₁ with heap := h', toks := k' } ∧ Fr s₁.heap s₁.heap.objs.size h' m' ∧ LM m' x y g q b' av' ∧ (∃ tn, m' (Str.ofString "n") = some (.int nn tn)) ∧
        WF h' x dx y dy g q tb' al' (List.map dom bs') (Option.map (List.map dom) as') (List.map dom ms') ms' b' bs' av' as' t3 ∧ KpB wr h₃ h' ∧ ms'.length ≤ i + 1 ∧ bs'.length ≤ 1000 ∧ (∀ L ∈ ms', L ∈ allL) ∧ (∀ L ∈ bs', L ∈ allL) ∧ inAl as') (E := NoE) ?_ (fun f s' q => ?_) fun _ _ e => e.elim)
    · refine wpAny_If (wpAny_isTrue_Compare1 (wpAny_BinOp (ld F₃ hx₃ (wpAny_Constant_int (mod_int (by decide) (wpAny_Constant_int (PyProof.Rows.lt_int (wpAny_truthy_bool (ite_b (fun h1 => ?_) fun h1 => ?_)))))))))
      · -- meant.append, given.append
        have hg0 := W.giv
        obtain ⟨vsq, hq, hrq, hoq⟩ := id W.mea
        refine wpAny_execs_cons (wpAny_Expr (MethodCall_ (ld F₃ lm₃.q (getMethod_append hq (callWith_method1 (args_cons (Call_ (name_K F₃ G.X G.T (nsLabels w) (callWith_K G.X (kp281 w) (args_cons (ld F₃ hn₃ (args_nil ⟨G.X.keeps F₃.keep, ?_⟩))))))))))))
        refine labels_call (G.keeps F₃.keep) ((hA _).less (by omega)) fun a h₄ k₄ kp₄ ha hl₄ => ?_
        dsimp only at kp₄ ha ⊢
        have F₄ := F₃.keeps kp₄
        have W₄ := W.kp kp₄
        have hq₄ : h₄.PlainList q vsq.toArray := hq.at fun o e => kp₄ _ o e
        have hag : a ≠ g := fun e => by obtain ⟨_, ⟨_, e'⟩, _⟩ := hg0; rw [← e, ha] at e'; cases e'
        have haq : a ≠ q := fun e => by obtain ⟨_, e'⟩ := hq; rw [← e, ha] at e'; cases e'
        have hL₀ : labelsOf nn ∈ allL := labels_mem nn
        refine args_nil (wpAny_list_append_plain hq₄ (fun h₅ hq₅ sb₅ => ?_) ?_)
        · dsimp only at sb₅ ⊢
          have kb₅ : KpB [q] h₄ h₅ := KpB.same sb₅
          have F₅ := Fr.b1 F₄ kb₅ ap.nq (ne_of_seq_ns hq₄ F₄.ns).symm
          have hq₅' : h₅.PlainList q (vsq ++ [Value.ref a]).toArray := by simpa using hq₅
          have hoq' : ∀ c, Value.ref c ∈ vsq ++ [.ref a] → c ∉ [g, q] := by
            intro c hc hm
            rcases List.mem_append.mp hc with hc | hc
            · exact hoq c hc hm
            · cases List.mem_singleton.mp hc
              rcases List.mem_cons.mp hm with e | hm
              · exact hag e
              · exact haq (List.mem_singleton.mp hm)
          have hr₅ : RowsAre h₅ (vsq ++ [.ref a]) (ms ++ [labelsOf nn]) := ((hrq.keeps kp₄).snoc hl₄).kb kb₅ fun c hc hm => hoq' c hc (by rw [List.mem_singleton.mp hm]; exact .tail _ (.head _))
          have hl₅ : LstOf h₅ a (labelsOf nn) := by
            obtain ⟨us', ⟨o, e, r⟩, r'⟩ := hl₄
            exact ⟨us', ⟨o, kb₅ _ _ (fun hm => haq (List.mem_singleton.mp hm)) e, r⟩, r'⟩
          have W₅ := W₄.appQ kb₅ ⟨_, hq₅', hr₅, hoq'⟩
          obtain ⟨vsg, hg₅, hsg₅⟩ := id W₅.giv
          refine wpAny_execs_cons (wpAny_Expr (MethodCall_ (ld F₅ lm₃.g (getMethod_append hg₅ (callWith_method1 (args_cons (MethodCall_ (MethodCall_ (Constant_str (GM.join (callWith_method1 (args_cons (Subscript_ (ld F₅ lm₃.q (UnaryOp_ (wpAny_Constant_int (PyProof.Rows.neg_int (list_neg (v := .ref a) hq₅'.isList (by omega) ?_ (by omega) ?_ ?_))))))))))))))))))
          · simp only [List.size_toArray, List.length_append, List.length_singleton]; omega
          · have hidx : ((-1 : Int) + ((vsq ++ [Value.ref a]).toArray.size : Nat)).toNat = vsq.length := by simp only [List.size_toArray, List.length_append, List.length_singleton]; omega
            rw [hidx]
            simp
          refine args_nil (join_call hl₅ hL₀ fun t k => ?_)
          dsimp only
          refine GM.swapcase (callWith_method0 (SC.swapcase (short (dom_small hL₀)) ?_))
          refine args_nil (wpAny_list_append_plain hg₅ (fun h₆ hg₆ sb₆ => ?_) ?_)
          · dsimp only at sb₆ ⊢
            have kb₆ : KpB [g] h₅ h₆ := KpB.same sb₆
            have F₆ := Fr.b1 F₅ kb₆ ap.ng (ne_of_seq_ns hg₅ F₅.ns).symm
            have W₆ := W₅.appG (gs' := List.map dom (ms ++ [labelsOf nn])) kb₆ ⟨vsg ++ [_], by simpa using hg₆, by rw [List.map_append]; exact hsg₅.append (.one _ _)⟩
            refine wpAny_execs_nil ⟨rfl, h₆, _, m₃, tb, al, ms ++ [labelsOf nn], b, bs, av, as, rfl, F₆, lm₃, ⟨tn, hn₃⟩, W₆, ((KpB.of kp₄).trans (kb₅.m1 wq)).trans (kb₆.m1 wg), by simp only [List.length_append, List.length_singleton]; omega, z2, ?_, a2, a3⟩
            intro L hL
            rcases List.mem_append.mp hL with hL | hL
            · exact a1 L hL
            · rw [List.mem_singleton.mp hL]; exact hL₀
          · have := sizeLine_eq
            have h1 := hsg₅.length
            simp only [List.length_map] at h1
            simp only [List.size_toArray]
            omega
        · have := sizeLine_eq
          have h1 := hrq.length
          simp only [List.size_toArray]
          omega
      · refine wpAny_execs_cons (wpAny_If (wpAny_isTrue_Compare1 (wpAny_BinOp (ld F₃ hx₃ (wpAny_Constant_int (mod_int (by decide) (wpAny_Constant_int (PyProof.Rows.eq_int (wpAny_truthy_bool (ite_b (fun h2 => ?_) fun h2 => ?_))))))))))
        · -- set_blocked_domains
          refine wpAny_execs_cons (wpAny_Expr (MethodCall_ (ld F₃ lm₃.p (meth G F₃ W.pol (pg129 w) (fi129 w) (if129 w) (by decide) (callWith_K G.X (kp129 w) (args_cons (ld F₃ lm₃.g (args_nil ⟨G.X.keeps F₃.keep, ?_⟩))))))))
          refine setb_call (G.keeps F₃.keep) ((hA _).less (by omega)) W.pol W.giv.lst (by simp only [List.length_map]; omega) fun h₄ k₄ tb' kb₄ hp₄ ht₄ => ?_
          dsimp only at kb₄ ⊢
          have dX := DictAt.ofPol W.pol
          have F₄ := Fr.b1 F₃ kb₄ ap.nx ap.Lx
          have W₄ := W.setP kb₄ hp₄ ht₄ (W.tal.kd kb₄ dX)
          obtain ⟨vsq, hq, hrq, hoq⟩ := id W₄.mea
          refine wpAny_execs_cons (wpAny_Assign_Name (Call_ (name_B F₄ G.X G.T (nsList w) boot_list (by decide) (callWith_type1 (args_cons (ld F₄ lm₃.q (args_nil ?_)))))))
          refine copy_call (.inr hq.isList) (by rw [List.size_toArray, hrq.length]; omega) fun b' h₅ kp₅ nb' hb₅ => ?_
          dsimp only at kp₅ nb' ⊢
          have F₅ := F₄.keeps kp₅
          have W₅ := W₄.kp kp₅
          have hbn : b' ∉ [g, q] := by
            intro hm
            rcases List.mem_cons.mp hm with e | hm
            · obtain ⟨_, ⟨_, e'⟩, _⟩ := W₄.giv; rw [← e, nb'] at e'; cases e'
            · obtain ⟨_, e'⟩ := hq; rw [← List.mem_singleton.mp hm, nb'] at e'; cases e'
          have W₆ := W₅.newB (b' := b') (bs' := ms) ⟨vsq, hb₅, hrq.keeps kp₅, hoq⟩ hbn
          refine stS F₅ fun h₆ F₆ sb₆ => ?_
          have W₇ := W₆.kw (KpW.ofD (KpB.same sb₆) (DictAt.ofNs F₅.ns) ap.Lx ap.Ly)
          refine wpAny_execs_nil (wpAny_execs_nil ⟨rfl, h₆, _, _, tb', al, ms, b', ms, av, as, rfl, F₆, lm₃.setB, ⟨tn, (if_neg (by decide)).trans hn₃⟩, W₇, ((kb₄.m1 wx).trans (KpB.of kp₅)).trans ((KpB.same sb₆).m1 wL), by omega, by omega, a1, a1, a3⟩)
        · refine wpAny_execs_cons (wpAny_If (wpAny_isTrue_Compare1 (wpAny_BinOp (ld F₃ hx₃ (wpAny_Constant_int (mod_int (by decide) (wpAny_Constant_int (PyProof.Rows.eq_int (wpAny_truthy_bool (ite_b (fun h3 => ?_) fun h3 => ?_))))))))))
          · -- set_allowed_domains(given)
            refine wpAny_execs_cons (wpAny_Expr (MethodCall_ (ld F₃ lm₃.p (meth G F₃ W.pol (pg150 w) (fi150 w) (if150 w) (by decide) (callWith_K G.X (kp150 w) (args_cons (ld F₃ lm₃.g (args_nil ⟨G.X.keeps F₃.keep, ?_⟩))))))))
            refine seta_list (G.keeps F₃.keep) ((hA _).less (by omega)) W.pol W.giv.lst (by simp only [List.length_map]; omega) fun h₄ k₄ ta' kb₄ hp₄ ht₄ => ?_
            dsimp only at kb₄ ⊢
            have dX := DictAt.ofPol W.pol
            have F₄ := Fr.b1 F₃ kb₄ ap.nx ap.Lx
            have W₄ := W.setP (ta' := Option.map (List.map dom) (some ms)) kb₄ hp₄ (W.tup.kd kb₄ dX) ⟨ta', rfl, ht₄⟩
            obtain ⟨vsq, hq, hrq, hoq⟩ := id W₄.mea
            refine wpAny_execs_cons (wpAny_Assign_Name (Call_ (name_B F₄ G.X G.T (nsList w) boot_list (by decide) (callWith_type1 (args_cons (ld F₄ lm₃.q (args_nil ?_)))))))
            refine copy_call (.inr hq.isList) (by rw [List.size_toArray, hrq.length]; omega) fun b' h₅ kp₅ nb' hb₅ => ?_
            dsimp only at kp₅ nb' ⊢
            have F₅ := F₄.keeps kp₅
            have W₅ := W₄.kp kp₅
            have hbn : b' ∉ [g, q] := by
              intro hm
              rcases List.mem_cons.mp hm with e | hm
              · obtain ⟨_, ⟨_, e'⟩, _⟩ := W₄.giv; rw [← e, nb'] at e'; cases e'
              · obtain ⟨_, e'⟩ := hq; rw [← List.mem_singleton.mp hm, nb'] at e'; cases e'
            have W₆ := W₅.newA (av' := .ref b') (as' := some ms) ⟨b', rfl, ⟨vsq, hb₅, hrq.keeps kp₅, hoq⟩, hbn, by omega⟩
            refine stS F₅ fun h₆ F₆ sb₆ => ?_
            have W₇ := W₆.kw (KpW.ofD (KpB.same sb₆) (DictAt.ofNs F₅.ns) ap.Lx ap.Ly)
            refine wpAny_execs_nil (wpAny_execs_nil (wpAny_execs_nil ⟨rfl, h₆, _, _, tb, .ref ta', ms, b, bs, .ref b', some ms, rfl, F₆, lm₃.setA, ⟨tn, (if_neg (by decide)).trans hn₃⟩, W₇, ((kb₄.m1 wx).trans (KpB.of kp₅)).trans ((KpB.same sb₆).m1 wL), by omega, z2, a1, a2, a1⟩))
          · -- set_allowed_domains(None)
            refine wpAny_execs_cons (wpAny_Expr (MethodCall_ (ld F₃ lm₃.p (meth G F₃ W.pol (pg150 w) (fi150 w) (if150 w) (by decide) (callWith_K G.X (kp150 w) (args_cons (Constant_none (args_nil ⟨G.X.keeps F₃.keep, ?_⟩))))))))
            refine seta_none (G.keeps F₃.keep) ((hA _).less (by omega)) W.pol fun h₄ k₄ kb₄ hp₄ => ?_
            dsimp only at kb₄ ⊢
            have dX := DictAt.ofPol W.pol
            have F₄ := Fr.b1 F₃ kb₄ ap.nx ap.Lx
            have W₄ := W.setP (ta' := Option.map (List.map dom) none) kb₄ hp₄ (W.tup.kd kb₄ dX) rfl
            have W₅ := W₄.newA (av' := .none) (as' := none) rfl
            refine wpAny_execs_cons (wpAny_Assign_Name (Constant_none (stS F₄ fun h₅ F₅ sb₅ => ?_)))
            have W₆ := W₅.kw (KpW.ofD (KpB.same sb₅) (DictAt.ofNs F₄.ns) ap.Lx ap.Ly)
            have lm₅ := lm₃.setA (av' := .none)
            dsimp only at F₅ ⊢
            obtain ⟨vsg, hg₅, hsg₅⟩ := id W₆.giv
            refine wpAny_execs_cons (wpAny_Expr (MethodCall_ (ld F₅ lm₅.g (getMethod_clear hg₅ (callWith_method0 ?_)))))
            refine clear_call hg₅ (by rw [List.size_toArray, hsg₅.length]; simp only [List.length_map]; omega) fun h₆ hg₆ sb₆ => ?_
            dsimp only at sb₆ ⊢
            have F₆ := Fr.b1 F₅ (KpB.same sb₆) ap.ng (ne_of_seq_ns hg₅ F₅.ns).symm
            have W₇ := W₆.appG (gs' := List.map dom []) (KpB.same sb₆) ⟨[], hg₆, .nil⟩
            obtain ⟨vsq, hq₆, hrq, hoq⟩ := id W₇.mea
            refine wpAny_execs_cons (wpAny_Expr (MethodCall_ (ld F₆ lm₅.q (getMethod_clear hq₆ (callWith_method0 ?_)))))
            refine clear_call hq₆ (by rw [List.size_toArray, hrq.length]; omega) fun h₇ hq₇ sb₇ => ?_
            dsimp only at sb₇ ⊢
            have F₇ := Fr.b1 F₆ (KpB.same sb₇) ap.nq (ne_of_seq_ns hq₆ F₆.ns).symm
            have W₈ := W₇.appQ (ms' := []) (KpB.same sb₇) ⟨[], hq₇, .nil, fun _ h => by cases h⟩
            refine wpAny_execs_nil (wpAny_execs_nil (wpAny_execs_nil ⟨rfl, h₇, _, _, tb, .none, [], b, bs, .none, none, rfl, F₇, lm₅, ⟨tn, (if_neg (by decide)).trans hn₃⟩, W₈, (((kb₄.m1 wx).trans ((KpB.same sb₅).m1 wL)).trans ((KpB.same sb₆).m1 wg)).trans ((KpB.same sb₇).m1 wq), Nat.zero_le _, z2, (fun _ h => by cases h), a2, trivial⟩))
    · obtain ⟨rfl, h₄, k₄, m₄, tb', al', ms', b', bs', av', as', rfl, F₄, lm₄, ⟨tn', hn₄⟩, W₄, kb₄, z1', z2', a1', a2', a3'⟩ := q
      dsimp only
      refine wpAny_execs_cons (wpAny_If (isTrue_not (isTrue_plain (Call_ (name_K F₄ G.X G.T (nsHolds w) (callWith_K G.X (kp296 w) (args_cons (ld F₄ lm₄.p (args_cons (ld F₄ lm₄.b (args_cons (ld F₄ lm₄.a (args_cons (List_ (args_cons (Call_ (name_K F₄ G.X G.T (nsLabels w) (callWith_K G.X (kp281 w) (args_cons (wpAny_BinOp (ld F₄ hn₄ (wpAny_Constant_int (floordiv_int (by decide) (args_nil ⟨G.X.keeps F₄.keep, ?_⟩))))))))))))))))))))))))
      refine labels_call (G.keeps F₄.keep) ((hA _).less (by omega)) fun a h₅ k₅ kp₅ _ hl₅ => ?_
      dsimp only at kp₅ ⊢
      refine args_nil (newL (fun hs h₆ kp₆ _ hh₆ => ?_) (by show 1 ≤ 1000; omega))
      dsimp only at kp₆ ⊢
      have F₆ := (F₄.keeps kp₅).keeps kp₆
      have W₆ := (W₄.kp kp₅).kp kp₆
      refine args_nil ⟨G.X.keeps F₆.keep, ?_⟩
      refine holds_call (G.keeps F₆.keep) ((hA _).less (by omega)) W₆.pol W₆.tup (alAt_of W₆.tal) W₆.blo.at W₆.alw.at ⟨[Value.ref a], hh₆, .cons (hl₅.keeps kp₆) .nil⟩ a2' a3' (fun L hL => by rw [List.mem_singleton.mp hL]; exact labels_mem _) z2' fun h₇ k₇ kp₇ => ?_
      dsimp only at kp₇ ⊢
      refine wpAny_truthy_bool (ite_f rfl (wpAny_execs_nil (wpAny_execs_nil ⟨?_, ?_⟩)))
      · exact ⟨h₇, k₇, m₄, tb', al', ms', b', bs', av', as', rfl, F₆.keeps kp₇, lm₄, W₆.kp kp₇, z1', z2', a1', a2', a3'⟩
      · exact ((kb₃.trans kb₄).trans (KpB.of kp₅)).trans ((KpB.of kp₆).trans (KpB.of kp₇))
  · rintro s' ⟨h, k, m, tb, al, ms, b, bs, av, as, rfl, F, lm, W, z1, z2, a1, a2, a3⟩
    clear hus₁₈ hscr F₀ lm₀ hsg hsq huint wL wx wg wq hwr hsn
    dsimp only
    -- second
    refine wpAny_execs_cons (wpAny_Assign_Name (cut (fun v h => ArgAt h v (Option.map (List.map dom) as)) ?_ ?_))
    · cases as with
      | none =>
        obtain rfl : av = .none := W.alw
        refine IfExp_ (wpAny_isTrue_Compare1 (ld F lm.a (Constant_none (wpAny_is_self rfl (wpAny_truthy_bool (ite_t rfl (Constant_none ⟨h, _, rfl, Kp.rfl, rfl⟩)))))))
      | some As =>
        obtain ⟨r, rfl, hr, _, zA⟩ := W.alw
        refine IfExp_ (wpAny_isTrue_Compare1 (ld F lm.a (Constant_none (wpAny_is_other rfl (by intro e; cases e) (wpAny_truthy_bool (ite_f rfl (Call_ (name_B F G.X G.T (nsList w) boot_list (by decide) (callWith_type1 (args_cons (Call_ (name_K F G.X G.T (nsTexts w) (callWith_K G.X (kp286 w) (args_cons (ld F lm.a (args_nil ⟨G.X.keeps F.keep, ?_⟩))))))))))))))))
        refine texts_call (G.keeps F.keep) ((hA _).less (by omega)) hr.at a3 zA fun t h₂ k₂ kp₂ _ ht₂ => ?_
        dsimp only at kp₂ ⊢
        obtain ⟨vs, ht₂, hvs⟩ := ht₂
        refine args_nil (copy_call (.inl ht₂) (by rw [List.size_toArray, hvs.length, List.length_map]; exact zA) fun D h₃ kp₃ _ hD => ?_)
        dsimp only at kp₃ ⊢
        exact ⟨h₃, k₂, rfl, Kp.trans kp₂ kp₃, D, rfl, ⟨vs, hD.isList, hvs⟩, by rw [List.length_map]; exact zA⟩
    rintro v₂ h₂ k₂ hv₂ kp₂
    dsimp only at kp₂ ⊢
    have F₂ := F.keeps kp₂
    have W₂ := W.kp kp₂
    refine stS F₂ fun h₃ F₃ sb₃ => ?_
    have kw₃ := KpW.ofD (dx := dx) (dy := dy) (KpB.same sb₃) (DictAt.ofNs F₂.ns) ap.Lx ap.Ly
    have W₃ := W₂.kw kw₃
    have hv₃ := hv₂.kw kw₃
    dsimp only at F₃ ⊢
    obtain ⟨m₃, F₃, lm₃, hs₃⟩ : ∃ m', Fr s₁.heap s₁.heap.objs.size h₃ m' ∧ LM m' x y g q b av ∧ m' (Str.ofString "second") = some v₂ := ⟨_, F₃, lm.set (by decide), if_pos rfl⟩
    clear F F₂ W W₂ lm kp₂ hv₂ sb₃ kw₃
    -- fresh
    refine wpAny_execs_cons (wpAny_Assign_Name (CallK_ (name_K F₃ G.X G.T (nsPol w) (callWith_KW0 G.X (kp272 w) (by rfl) (kws_cons (Call_ (name_B F₃ G.X G.T (nsList w) boot_list (by decide) (callWith_type1 (args_cons (Call_ (name_K F₃ G.X G.T (nsTexts w) (callWith_K G.X (kp286 w) (args_cons (ld F₃ lm₃.b (args_nil ⟨G.X.keeps F₃.keep, ?_⟩)))))))))))))))
    refine texts_call (G.keeps F₃.keep) ((hA _).less (by omega)) W₃.blo.at a2 z2 fun t h₄ k₄ kp₄ _ ht₄ => ?_
    dsimp only at kp₄ ⊢
    obtain ⟨vsb, ht₄, hvsb⟩ := ht₄
    refine args_nil (copy_call (.inl ht₄) (by rw [List.size_toArray, hvsb.length, List.length_map]; exact z2) fun D h₅ kp₅ _ hD => ?_)
    dsimp only at kp₅ ⊢
    have F₅ := (F₃.keeps kp₄).keeps kp₅
    have W₅ := (W₃.kp kp₄).kp kp₅
    have hv₅ := (hv₃.keeps kp₄).keeps kp₅
    refine kws_cons (ld F₅ hs₃ (kws_nil ⟨G.X.keeps F₅.keep, ?_⟩))
    refine new_call (bv := .ref D) (av := v₂) (bx := some (List.map dom bs)) (ax := Option.map (List.map dom) as) (G.keeps F₅.keep) ((hA _).less (by omega)) (.inr rfl) ⟨D, rfl, ⟨vsb, hD.isList, hvsb⟩, by rw [List.length_map]; exact z2⟩ hv₅ fun h₆ k₆ x2 dx2 tb2 al2 kp₆ hx2 hdx2 hp2 ht2 hal2 => ?_
    dsimp only at kp₆ hx2 hdx2 ⊢
    have F₆ := F₅.keeps kp₆
    have W₆ := W₅.kp kp₆
    have hL2 : s₁.heap.objs.size ≠ dx2 := ne_new_ns F₅.ns hdx2
    refine stS F₆ fun h₇ F₇ sb₇ => ?_
    have d₆ := DictAt.ofNs F₆.ns
    have W₇ := W₆.kw (KpW.ofD (KpB.same sb₇) d₆ ap.Lx ap.Ly)
    have p₇ := hp2.kd (KpB.same sb₇) (Ne.symm hL2) d₆
    have t₇ := ht2.kd (KpB.same sb₇) d₆
    have al₇ := hal2.kd (KpB.same sb₇) d₆
    dsimp only at F₇ ⊢
    obtain ⟨m₇, F₇, lm₇, hf₇⟩ : ∃ m', Fr s₁.heap s₁.heap.objs.size h₇ m' ∧ LM m' x y g q b av ∧ m' (Str.ofString "fresh") = some (.ref x2) := ⟨_, F₇, lm₃.set (by decide), if_pos rfl⟩
    clear F₃ F₅ F₆ W₃ W₅ W₆ lm₃ hs₃ hv₃ hv₅ hp2 ht2 hal2 kp₄ kp₅ kp₆ sb₇ d₆ hx2 hdx2 hvsb ht₄ hD
    -- hosts
    refine wpAny_execs_cons (hosts_comp G F₇ ((hA _).less (by omega)) (fun D h₈ k₈ Ls kb₈ hD hrows hLlen hall F₈ => ?_) rfl (by decide) rfl (by decide) rfl rfl rfl rfl (fun _ => rfl) (fun _ => rfl) ?hsw (fun _ => rfl))
    case hsw => with_unfolding_all rfl
    have d₇ := DictAt.ofNs F₇.ns
    have W₈ := W₇.kw (KpW.ofD kb₈ d₇ ap.Lx ap.Ly)
    have p₈ := p₇.kd kb₈ (Ne.symm hL2) d₇
    have t₈ := t₇.kd kb₈ d₇
    have al₈ := al₇.kd kb₈ d₇
    dsimp only at F₈ ⊢
    obtain ⟨m₈, F₈, lm₈, hf₈, hh₈⟩ : ∃ m', Fr s₁.heap s₁.heap.objs.size h₈ m' ∧ LM m' x y g q b av ∧ m' (Str.ofString "fresh") = some (.ref x2) ∧ m' (Str.ofString "hosts") = some (.ref D) := ⟨_, F₈, lm₇.set (by decide), (if_neg (by decide)).trans hf₇, if_pos rfl⟩
    clear F₇ W₇ p₇ t₇ al₇ d₇ lm₇ hf₇ kb₈ hD
    -- third
    refine wpAny_execs_cons (wpAny_If (isTrue_not (isTrue_plain (Call_ (name_K F₈ G.X G.T (nsHolds w) (callWith_K G.X (kp296 w) (args_cons (ld F₈ lm₈.t (args_cons (List_ (args_nil (newL (fun e h₉ kp₉ _ he₉ => ?_) (by show 0 ≤ 1000; omega)))))))))))))
    dsimp only at kp₉ ⊢
    have F₉ := F₈.keeps kp₉
    obtain ⟨vsh, hvh, hrh⟩ := hrows.keeps kp₉
    refine args_cons (Constant_none (args_cons (slice_mine (ld F₉ hh₈ (wpAny_evalPart_none (wpAny_evalPart_some (wpAny_Constant_int ⟨D, vsh.toArray, none, some 2, rfl, hvh.isList, ?_, .none, .int _ _, fun r h₁₀ kp₁₀ _ hr₁₀ => ?_⟩)))))))
    · rw [List.size_toArray, hrh.length]; omega
    rw [show (some (2 : Int)) = some ((2 : Nat) : Int) from rfl, slicePick_upto'] at hr₁₀
    dsimp only at kp₁₀ ⊢
    have F₁₀ := F₉.keeps kp₁₀
    have W₁₀ := (W₈.kp kp₉).kp kp₁₀
    refine args_nil ⟨G.X.keeps F₁₀.keep, ?_⟩
    refine holds_call (Bs := []) (As := none) (Hs := Ls.take 2) (G.keeps F₁₀.keep) ((hA _).less (by omega)) W₁₀.thi W₁₀.th3 rfl ⟨[], he₉.at fun o e => kp₁₀ _ _ e, .nil⟩ rfl ⟨vsh.take 2, by simpa using hr₁₀, (hrh.take 2).keeps kp₁₀⟩ (fun _ h => by cases h) trivial (fun L hL => hall L (List.mem_of_mem_take hL)) (Nat.zero_le _) fun h₁₁ k₁₁ kp₁₁ => ?_
    dsimp only at kp₁₁ ⊢
    refine wpAny_truthy_bool (ite_f rfl (wpAny_execs_nil ?_))
    have F₁₁ := F₁₀.keeps kp₁₁
    have kpa := Kp.trans kp₉ (Kp.trans kp₁₀ kp₁₁)
    have W₁₁ := W₈.kp kpa
    dsimp only
    refine wpAny_execs_cons (wpAny_Return_some (BoolOp_and (Call_ (name_K F₁₁ G.X G.T (nsHolds w) (callWith_K G.X (kp296 w) (args_cons (ld F₁₁ lm₈.p (args_cons (ld F₁₁ lm₈.b (args_cons (ld F₁₁ lm₈.a (args_cons (ld F₁₁ hh₈ (args_nil ⟨G.X.keeps F₁₁.keep, ?_⟩))))))))))))))
    refine holds_call (G.keeps F₁₁.keep) ((hA _).less (by omega)) W₁₁.pol W₁₁.tup (alAt_of W₁₁.tal) W₁₁.blo.at W₁₁.alw.at (hrows.keeps kpa) a2 a3 hall z2 fun h₁₂ k₁₂ kp₁₂ => ?_
    dsimp only at kp₁₂ ⊢
    have F₁₂ := F₁₁.keeps kp₁₂
    have W₁₂ := W₁₁.kp kp₁₂
    have kpb := Kp.trans kpa kp₁₂
    refine wpAny_truthy_bool (ite_t rfl (BoolOp_one (Call_ (name_K F₁₂ G.X G.T (nsHolds w) (callWith_K G.X (kp296 w) (args_cons (ld F₁₂ hf₈ (args_cons (ld F₁₂ lm₈.b (args_cons (ld F₁₂ lm₈.a (args_cons (ld F₁₂ hh₈ (args_nil ⟨G.X.keeps F₁₂.keep, ?_⟩))))))))))))))
    refine holds_call (Bs := bs) (As := as) (G.keeps F₁₂.keep) ((hA _).less (by omega)) (p₈.keeps kpb) (t₈.keeps kpb) (alAt_of (al₈.keeps kpb)) W₁₂.blo.at W₁₂.alw.at (hrows.keeps kpb) a2 a3 hall z2 fun h₁₃ k₁₃ kp₁₃ => ?_
    exact ⟨rfl, h₁₃, k₁₃, m₈, rfl, F₁₂.keeps kp₁₃⟩
end Mine
end
theorem PySem.Challenge.cw_ko0037_07_holds : PySem.Challenge.rw_ko0037_07.Holds := by
  exact Mine.law_proved
