import PyProof.Rows.All
import Wide.All
import OpenK.AllK
import Wide.FinOn
import PySem.Challenge.RW_il0057_01
open PySem PySem.W PyProof.Rows PySem.Calls
set_option Elab.async false
set_option maxRecDepth 100000
local macro_rules | `(tactic| walk_at $s:str) => `(tactic| k_extra $s)
local macro_rules | `(tactic| size_fits) => `(tactic| first | ((simp only [PySem.sizeLine_eq]); omega) | ((simp only [PySem.sizeLine_eq, List.length_append, List.length_cons, List.length_nil, List.size_toArray, PySem.Str.length_append]); omega))
section
open PySem PySem.W PyProof.Rows
set_option Elab.async false
set_option maxRecDepth 100000
set_option maxHeartbeats 8000000
namespace Mine
section
local macro_rules | `(tactic| o_head $_) => `(tactic| assumption)
theorem hd0 (x : PySem.Challenge.rw_il0057_01.row.Holds) : PySem.Challenge.rw_il0057_01.row.Holds := by k_head
end
noncomputable def VW : Program := by
  refine (?f : PySem.Challenge.rw_il0057_01.row.prog.main.body = [?s0, ?s1, ?s2, ?s3, ?s4, ?s5, ?s6, ?s7, ?s8, ?s9, ?s10, ?s11, ?s12, ?s13, ?s14, ?s15, ?s16, ?s17, ?s18, ?s19, ?s20, ?s21, ?s22, ?s23, ?s24, ?s25, ?s26, ?s27, ?s28, ?s29] → Program) ?h
  case h => exact rfl
  case f => exact fun _ => { PySem.Challenge.rw_il0057_01.row.prog with main := { PySem.Challenge.rw_il0057_01.row.prog.main with body := [?s0, ?s2, ?s4, ?s6, ?s7, ?s9, ?s11, ?s13, ?s14, ?s15, ?s16, ?s17, ?s19, ?s21, ?s22, ?s24, ?s25, ?s26, ?s27, ?s28, ?s29] } }
theorem of_str (s : String) : Str.ofString s = ⟨⟨s.toList.map Char.toNat⟩⟩ := Str.ofString_eq_byList ▸ rfl
/-- the program, the view and the written heap again, each text as its code points: the kernel reads them faster -/
noncomputable def PW2 : Program := by
  refine (?f : PySem.Challenge.pw_il0057_01 = ?p → Program) ?h
  case h =>
    delta PySem.Challenge.pw_il0057_01
    simp only [of_str, String.reduceToList, List.map_cons, List.map_nil, Char.reduceToNat]
    exact rfl
  case f => exact fun _ => ?p
theorem pw_fast : PySem.Challenge.pw_il0057_01 = PW2 := by kernel_rfl
noncomputable def VW2 : Program := by
  refine (?f : PW2.main.body = [?s0, ?s1, ?s2, ?s3, ?s4, ?s5, ?s6, ?s7, ?s8, ?s9, ?s10, ?s11, ?s12, ?s13, ?s14, ?s15, ?s16, ?s17, ?s18, ?s19, ?s20, ?s21, ?s22, ?s23, ?s24, ?s25, ?s26, ?s27, ?s28, ?s29] → Program) ?h
  case h => exact rfl
  case f => exact fun _ => { PW2 with main := { PW2.main with body := [?s0, ?s2, ?s4, ?s6, ?s7, ?s9, ?s11, ?s13, ?s14, ?s15, ?s16, ?s17, ?s19, ?s21, ?s22, ?s24, ?s25, ?s26, ?s27, ?s28, ?s29] } }
theorem vw_fast : VW = VW2 := by kernel_rfl
noncomputable def HP2 : Params → Frag := by
  refine (?f : hd0.heap_1 = ?p → Params → Frag) ?h
  case h =>
    delta hd0.heap_1
    simp only [of_str, String.reduceToList, List.map_cons, List.map_nil, Char.reduceToNat]
    exact rfl
  case f => exact fun _ => ?p
theorem hp_fast : hd0.heap_1 = HP2 := by kernel_rfl
noncomputable def RW2 : OpenLaw := { prog := PW2, name := Str.ofString "law", about := [Str.ofString "commonpath"], foot := 6, most := some 63, bound := none, writes := false }
theorem rw_fast : PySem.Challenge.rw_il0057_01 = RW2 := by
  show OpenLaw.mk PySem.Challenge.pw_il0057_01 _ _ _ _ _ _ = _
  rw [pw_fast]
  rfl
theorem hd_at : ∀ P, [2, 3, 15, 17, 18, 20, 21, 22, 24, 25, 27, 28, 29, 36, 38, 39, 41, 42, 43, 44, 45, 48, 55, 57, 58, 60, 61, 62, 64, 65, 67, 68, 69, 71, 72, 74, 75, 76, 77, 78, 81, 83, 84, 86, 87, 88, 90, 91, 93, 94, 95, 97, 98, 100, 101, 102, 104, 105, 107, 108, 109, 111, 112, 114, 115, 116, 118, 119, 121, 122, 123, 125, 126, 128, 129, 130, 133, 134, 135, 137, 138, 140, 141, 142, 144, 145, 147, 148, 149, 151, 152, 154, 155, 156, 158, 159, 161, 162, 163, 165, 166, 168, 169, 170, 172, 173, 175, 176, 177, 180, 181, 182, 184, 185, 187, 188, 189, 192, 193] = (hd0.heap_1 P).map (·.1) := fun _ => by kernel_rfl
theorem both_of {α β γ : Type} {f : α → β} {g : α → γ} {a : β} {b : γ} : ∀ {x : Option α}, x.map f = some a → x.map g = some b → x.map (fun s => (f s, g s)) = some (a, b)
  | none, h, _ => by cases h
  | some _, h, k => by cases h; cases k; rfl
theorem hd_seen : ∀ w, Option.map (fun s => openSeen VW2 [] (importedModules PW2.main.body) (fun s => xlAt VW2 [] s && recOk [] s) true s) (openEnds treeTable PW2 w 2496) = some (openGood VW2 []) := by
  intro w
  delta openEnds fencedOpening topFrom
  rw [PySem.W.Fast.te10274390034422433532, PySem.W.Fast.te14082659384304107361, PySem.W.Fast.te14289696077712309145, PySem.W.Fast.te14364793385576792824, PySem.W.Fast.te1435165496053646825, PySem.W.Fast.te4187177175401517315, PySem.W.Fast.te5923862056798008813]
  kernel_rfl
theorem hd_heap : ∀ w, Option.map (fun s => List.map s.heap.get? [2, 3, 15, 17, 18, 20, 21, 22, 24, 25, 27, 28, 29, 36, 38, 39, 41, 42, 43, 44, 45, 48, 55, 57, 58, 60, 61, 62, 64, 65, 67, 68, 69, 71, 72, 74, 75, 76, 77, 78, 81, 83, 84, 86, 87, 88, 90, 91, 93, 94, 95, 97, 98, 100, 101, 102, 104, 105, 107, 108, 109, 111, 112, 114, 115, 116, 118, 119, 121, 122, 123, 125, 126, 128, 129, 130, 133, 134, 135, 137, 138, 140, 141, 142, 144, 145, 147, 148, 149, 151, 152, 154, 155, 156, 158, 159, 161, 162, 163, 165, 166, 168, 169, 170, 172, 173, 175, 176, 177, 180, 181, 182, 184, 185, 187, 188, 189, 192, 193]) (openEnds treeTable PW2 w 2496) = some ((HP2 w.params).map fun p => some p.2) := by
  intro w
  delta openEnds fencedOpening topFrom
  rw [PySem.W.Fast.te10274390034422433532, PySem.W.Fast.te14082659384304107361, PySem.W.Fast.te14289696077712309145, PySem.W.Fast.te14364793385576792824, PySem.W.Fast.te1435165496053646825, PySem.W.Fast.te5923862056798008813]
  kernel_rfl
theorem hd_top : LeftO RW2.row.prog VW [] (fun s => xlAt VW [] s && recOk (RowW.records RW2.row.toRowW) s) (kHook hd0.heap_1 [2, 3, 15, 17, 18, 20, 21, 22, 24, 25, 27, 28, 29, 36, 38, 39, 41, 42, 43, 44, 45, 48, 55, 57, 58, 60, 61, 62, 64, 65, 67, 68, 69, 71, 72, 74, 75, 76, 77, 78, 81, 83, 84, 86, 87, 88, 90, 91, 93, 94, 95, 97, 98, 100, 101, 102, 104, 105, 107, 108, 109, 111, 112, 114, 115, 116, 118, 119, 121, 122, 123, 125, 126, 128, 129, 130, 133, 134, 135, 137, 138, 140, 141, 142, 144, 145, 147, 148, 149, 151, 152, 154, 155, 156, 158, 159, 161, 162, 163, 165, 166, 168, 169, 170, 172, 173, 175, 176, 177, 180, 181, 182, 184, 185, 187, 188, 189, 192, 193] hd_at).obs (kHook hd0.heap_1 [2, 3, 15, 17, 18, 20, 21, 22, 24, 25, 27, 28, 29, 36, 38, 39, 41, 42, 43, 44, 45, 48, 55, 57, 58, 60, 61, 62, 64, 65, 67, 68, 69, 71, 72, 74, 75, 76, 77, 78, 81, 83, 84, 86, 87, 88, 90, 91, 93, 94, 95, 97, 98, 100, 101, 102, 104, 105, 107, 108, 109, 111, 112, 114, 115, 116, 118, 119, 121, 122, 123, 125, 126, 128, 129, 130, 133, 134, 135, 137, 138, 140, 141, 142, 144, 145, 147, 148, 149, 151, 152, 154, 155, 156, 158, 159, 161, 162, 163, 165, 166, 168, 169, 170, 172, 173, 175, 176, 177, 180, 181, 182, 184, 185, 187, 188, 189, 192, 193] hd_at).val 2496 := by
  show LeftO PW2 VW [] (fun s => xlAt VW [] s && recOk [] s) (fun s => List.map s.heap.get? [2, 3, 15, 17, 18, 20, 21, 22, 24, 25, 27, 28, 29, 36, 38, 39, 41, 42, 43, 44, 45, 48, 55, 57, 58, 60, 61, 62, 64, 65, 67, 68, 69, 71, 72, 74, 75, 76, 77, 78, 81, 83, 84, 86, 87, 88, 90, 91, 93, 94, 95, 97, 98, 100, 101, 102, 104, 105, 107, 108, 109, 111, 112, 114, 115, 116, 118, 119, 121, 122, 123, 125, 126, 128, 129, 130, 133, 134, 135, 137, 138, 140, 141, 142, 144, 145, 147, 148, 149, 151, 152, 154, 155, 156, 158, 159, 161, 162, 163, 165, 166, 168, 169, 170, 172, 173, 175, 176, 177, 180, 181, 182, 184, 185, 187, 188, 189, 192, 193]) (fun w => (hd0.heap_1 w.params).map fun p => some p.2) 2496
  rw [vw_fast, hp_fast]
  exact fun w => both_of (hd_seen w) (hd_heap w)
theorem hd_wit : RW2.row.toRowW.promised := by
  rw [← rw_fast]
  w_witness2
theorem hd_looks : (chainsOk VW && opensWell RW2.row.prog && (frees RW2.row.toRowW && RW2.row.within.isEmpty)) = true := by
  rw [vw_fast]
  k_qdec
theorem hd2 {d : DefRec} {kwd : List (PySem.Str × PySem.Expr)} (hdef : defOf VW RW2.row.name = some (d, kwd)) (hp : RW2.row.prog.theDef RW2.row.name = some (d.params, d.body, d.scope)) (hk : kwWritten? d.params.kwonlyargs d.params.kw_defaults = some kwd)
    (walk : WalkO VW [] (XL VW []) (kHook hd0.heap_1 [2, 3, 15, 17, 18, 20, 21, 22, 24, 25, 27, 28, 29, 36, 38, 39, 41, 42, 43, 44, 45, 48, 55, 57, 58, 60, 61, 62, 64, 65, 67, 68, 69, 71, 72, 74, 75, 76, 77, 78, 81, 83, 84, 86, 87, 88, 90, 91, 93, 94, 95, 97, 98, 100, 101, 102, 104, 105, 107, 108, 109, 111, 112, 114, 115, 116, 118, 119, 121, 122, 123, 125, 126, 128, 129, 130, 133, 134, 135, 137, 138, 140, 141, 142, 144, 145, 147, 148, 149, 151, 152, 154, 155, 156, 158, 159, 161, 162, 163, 165, 166, 168, 169, 170, 172, 173, 175, 176, 177, 180, 181, 182, 184, 185, 187, 188, 189, 192, 193] hd_at).says RW2.row.toRowW d kwd fun f vs => PySem.call f vs) : RW2.Holds := by
  o_law
  exact holds_open hd_top (Hook.of (kHook hd0.heap_1 [2, 3, 15, 17, 18, 20, 21, 22, 24, 25, 27, 28, 29, 36, 38, 39, 41, 42, 43, 44, 45, 48, 55, 57, 58, 60, 61, 62, 64, 65, 67, 68, 69, 71, 72, 74, 75, 76, 77, 78, 81, 83, 84, 86, 87, 88, 90, 91, 93, 94, 95, 97, 98, 100, 101, 102, 104, 105, 107, 108, 109, 111, 112, 114, 115, 116, 118, 119, 121, 122, 123, 125, 126, 128, 129, 130, 133, 134, 135, 137, 138, 140, 141, 142, 144, 145, 147, 148, 149, 151, 152, 154, 155, 156, 158, 159, 161, 162, 163, 165, 166, 168, 169, 170, 172, 173, 175, 176, 177, 180, 181, 182, 184, 185, 187, 188, 189, 192, 193] hd_at)) (Hook.keeps (kHook hd0.heap_1 [2, 3, 15, 17, 18, 20, 21, 22, 24, 25, 27, 28, 29, 36, 38, 39, 41, 42, 43, 44, 45, 48, 55, 57, 58, 60, 61, 62, 64, 65, 67, 68, 69, 71, 72, 74, 75, 76, 77, 78, 81, 83, 84, 86, 87, 88, 90, 91, 93, 94, 95, 97, 98, 100, 101, 102, 104, 105, 107, 108, 109, 111, 112, 114, 115, 116, 118, 119, 121, 122, 123, 125, 126, 128, 129, 130, 133, 134, 135, 137, 138, 140, 141, 142, 144, 145, 147, 148, 149, 151, 152, 154, 155, 156, 158, 159, 161, 162, 163, 165, 166, 168, 169, 170, 172, 173, 175, 176, 177, 180, 181, 182, 184, 185, 187, 188, 189, 192, 193] hd_at)) (fun s e => xl_of s (Bool.and_eq_true_iff.mp e).1) XL.keeps hdef hp hk (fun s e => recFacts_of (Bool.and_eq_true_iff.mp e).2) (by rfl) (by assumption) hd_looks ⟨rfl, rfl, rfl, rfl, rfl, by decide +kernel⟩ hd_wit walk
theorem hd {d : DefRec} {kwd : List (PySem.Str × PySem.Expr)} (hdef : defOf VW PySem.Challenge.rw_il0057_01.row.name = some (d, kwd)) (hp : PySem.Challenge.rw_il0057_01.row.prog.theDef PySem.Challenge.rw_il0057_01.row.name = some (d.params, d.body, d.scope)) (hk : kwWritten? d.params.kwonlyargs d.params.kw_defaults = some kwd)
    (walk : WalkO VW [] (XL VW []) (kHook hd0.heap_1 [2, 3, 15, 17, 18, 20, 21, 22, 24, 25, 27, 28, 29, 36, 38, 39, 41, 42, 43, 44, 45, 48, 55, 57, 58, 60, 61, 62, 64, 65, 67, 68, 69, 71, 72, 74, 75, 76, 77, 78, 81, 83, 84, 86, 87, 88, 90, 91, 93, 94, 95, 97, 98, 100, 101, 102, 104, 105, 107, 108, 109, 111, 112, 114, 115, 116, 118, 119, 121, 122, 123, 125, 126, 128, 129, 130, 133, 134, 135, 137, 138, 140, 141, 142, 144, 145, 147, 148, 149, 151, 152, 154, 155, 156, 158, 159, 161, 162, 163, 165, 166, 168, 169, 170, 172, 173, 175, 176, 177, 180, 181, 182, 184, 185, 187, 188, 189, 192, 193] hd_at).says PySem.Challenge.rw_il0057_01.row.toRowW d kwd fun f vs => PySem.call f vs) : PySem.Challenge.rw_il0057_01.Holds := by
  rw [rw_fast] at *
  exact hd2 hdef hp hk walk
end Mine
end
section
open PySem PySem.W PyProof.Rows PySem.Calls
set_option Elab.async false
set_option maxRecDepth 100000
namespace Mine
noncomputable abbrev PRG : Program := Challenge.rw_il0057_01.row.prog
noncomputable abbrev LS : List Str := looseW VW []
def Keeps (h h' : Heap) : Prop := ∀ b o, h.get? b = some o → h'.get? b = some o
def NewIn (h h' : Heap) (tl : List (Addr × Obj)) : Prop := ∀ p ∈ tl, h'.get? p.1 = some p.2 ∧ h.get? p.1 = none
abbrev ar (dp un : Nat) (gd : Option (List Code)) (outs : List Env) : Around := { handled := none, depth := dp, frames := some outs, guards := gd, units := un }
structure At (n : Nat) (w : World) (mean : ExcName → Option Value) (mg mb : Str → Option Value) (dp un : Nat) (gd : Option (List Code)) (outs : List Env) (base h : Heap) : Prop where
  law : PySem.Challenge.rw_il0057_01 = PySem.Challenge.rw_il0057_01
  B : Below (ar dp un gd outs) base outs h
  X : (hd0.heap_1 w.params).In h
  T : Top VW LS mean mg mb h
  d : dp + n < recursionLimit
  u : un + 8 * n < cLine
def Hold (P : Prop) : Prop := P
theorem Hold.out {P : Prop} (h : Hold P) : P := h
theorem Hold.into {P : Prop} (h : P) : Hold P := h
section
variable {n : Nat} {w : World} {mean : ExcName → Option Value} {mg mb : Str → Option Value} {dp un : Nat} {gd : Option (List Code)} {outs : List Env} {base : Heap}
theorem At.less {k : Nat} {h : Heap} (C : At n w mean mg mb dp un gd outs base h) (hk : k ≤ n) : At k w mean mg mb dp un gd outs base h :=
  ⟨rfl, C.B, C.X, C.T, by have := C.d; omega, by have := C.u; omega⟩
/-- the next frame, at a call out of it -/
theorem At.push {h₀ h : Heap} {L : Addr} {m : Str → Option Value} {env : Env} (C : At (n + 1) w mean mg mb dp un gd outs base h₀) (F : Fr h₀ L h m) (hf : env.frame = some L) (hk : env.scope.kind = .function) :
    At n w mean mg mb (dp + 1) (un + 3) gd (env :: outs) base h :=
  ⟨rfl, ⟨rfl, (pushX C.B F hf hk).stays, (pushX C.B F hf hk).frames⟩, C.X.keeps F.keep, C.T.keeps F.keep, by have := C.d; omega, by have := C.u; omega⟩
theorem enter {s : Shared} {R : Result → Shared → Prop} {name : Str} {params : Arguments} {body : List Stmt} {scope : Scope} {pm cd doc oc : Value} {od : Option Addr} {osl : Array (Option Value)} {f : Addr} {args : List Value} {binds : List (Str × Value)}
    (C : At n w mean mg mb dp un gd outs base s.heap) (ho : (hd0.heap_1 w.params).lookup f = some ⟨oc, od, .func (docDef name params body scope pm cd doc), osl⟩) (hcd : codeIn (hd0.heap_1 w.params) cd name = true)
    (hbind : bindArgs (docDef name params body scope pm cd doc) ⟨args, []⟩ = pure binds) (hloc : ∀ y ∈ binds, scope.names.lookup y.1 = some .local)
    (h : ∀ L' h₁, Fr s.heap L' h₁ (fun y => binds.reverse.lookup y) → News s.heap L' h₁ [] →
      wpAny (model PRG w) ((ar dp un gd outs).deeper (envOf name scope L' f cd)) (execs body (envOf name scope L' f cd))
        (fun fl s' => R (.ok (.ret (match fl with | .ret v => v | _ => .none))) s')
        (fun e s' => wpAny (model PRG w) ((ar dp un gd outs).deeper (envOf name scope L' f cd)) (leaving (envOf name scope L' f cd) e) (fun _ s'' => R (.error e) s'') (fun e' s'' => R (.error e') s'') s')
        { s with heap := h₁, toks := s.toks + binds.length })
    (hco : scope.isCoroutine = false) (hgen : scope.isGenerator = false) (hk : scope.kind = .function)
    (hcell : ∀ x ∈ scope.names, x.2 ≠ .cell) : codeAny (model PRG w) (ar dp un gd outs) (.call (.ref f) ⟨args, []⟩) R s :=
  call_plain (by have := C.d; exact Nat.lt_of_le_of_lt (Nat.le_add_right _ _) this) (C.X _ _ ho) rfl C.T.nolimit (codeRec_of C.X hcd) hbind hloc (fun h₁ F => h _ h₁ F News.nil) hco hgen hk hcell
theorem enterC {s : Shared} {R : Result → Shared → Prop} {name : Str} {params : Arguments} {body : List Stmt} {scope : Scope} {pm cd doc oc : Value} {od : Option Addr} {osl : Array (Option Value)} {f : Addr} {args : List Value} {binds : List (Str × Value)}
    (C : At n w mean mg mb dp un gd outs base s.heap) (ho : (hd0.heap_1 w.params).lookup f = some ⟨oc, od, .func (docDef name params body scope pm cd doc), osl⟩) (hcd : codeIn (hd0.heap_1 w.params) cd name = true)
    (hbind : bindArgs (docDef name params body scope pm cd doc) ⟨args, []⟩ = pure binds)
    (hkind : (binds.all fun y => scope.names.lookup y.1 == some .local || scope.names.lookup y.1 == some .cell) = true)
    (hnd : ((cellsFrom 0 scope.names []).map (·.1)).Nodup)
    (h : ∀ L' h₁ tk cells, Fr s.heap L' h₁ (bindL (envOfC name scope L' f cd).kindOf binds fun _ => none) → News s.heap L' h₁ cells →
      CellsAre (bindC (envOfC name scope L' f cd).kindOf binds fun _ => none) (cellsFrom (L' + 1) scope.names []) cells →
      wpAny (model PRG w) ((ar dp un gd outs).deeper (envOfC name scope L' f cd)) (execs body (envOfC name scope L' f cd))
        (fun fl s' => R (.ok (.ret (match fl with | .ret v => v | _ => .none))) s')
        (fun e s' => wpAny (model PRG w) ((ar dp un gd outs).deeper (envOfC name scope L' f cd)) (leaving (envOfC name scope L' f cd) e) (fun _ s'' => R (.error e) s'') (fun e' s'' => R (.error e') s'') s')
        { s with heap := h₁, toks := tk })
    (hco : scope.isCoroutine = false) (hgen : scope.isGenerator = false) (hk : scope.kind = .function) : codeAny (model PRG w) (ar dp un gd outs) (.call (.ref f) ⟨args, []⟩) R s :=
  call_cellsN (by have := C.d; exact Nat.lt_of_le_of_lt (Nat.le_add_right _ _) this) (C.X _ _ ho) rfl C.T.nolimit (codeRec_of C.X hcd) hbind (kindsX hkind _) hnd (fun h₁ tk cells F N Y => h _ h₁ tk cells F N Y) hco hgen hk
def hid (h : Heap) (news : List (Addr × Obj)) : Heap := hideAll h (news.map (·.1))
theorem hid_of {h : Heap} {news : List (Addr × Obj)} {b : Addr} {o : Obj} (e : (hid h news).get? b = some o) : h.get? b = some o := of_hideAll _ e
theorem hid_keeps {h h' : Heap} {news : List (Addr × Obj)} (hn : ∀ p ∈ news, h.get? p.1 = some p.2) (hk : Keeps (hid h news) h') (hn' : ∀ p ∈ news, h'.get? p.1 = some p.2) : Keeps h h' := by
  intro b o e
  by_cases hb : b ∈ news.map (·.1)
  · obtain ⟨p, hp, rfl⟩ := List.mem_map.mp hb
    have h1 := hn p hp
    have h2 : h.get? p.1 = some o := e
    rw [h1] at h2
    rw [← Option.some.inj h2]
    exact hn' p hp
  · exact hk b o (hideAll_get _ e hb)
theorem hid_none {h : Heap} {news : List (Addr × Obj)} {b : Addr} (e : (hid h news).get? b = none) (hb : ∀ p ∈ news, p.1 ≠ b) : h.get? b = none := by
  cases q : h.get? b with
  | none => rfl
  | some o =>
    have : (hid h news).get? b = some o := hideAll_get _ q (fun hm => by
      obtain ⟨p, hp, e2⟩ := List.mem_map.mp hm
      exact hb p hp e2)
    rw [this] at e; cases e
/-- the next frame over a ground that hides what the call may see as made -/
theorem At.pushL {h₀ : Heap} {s : Shared} {L : Addr} {m : Str → Option Value} {env : Env} {news : List (Addr × Obj)} (C : At (n + 1) w mean mg mb dp un gd outs base h₀) (F : Fr h₀ L s.heap m) (N : News h₀ L s.heap news) (hf : env.frame = some L) (hk : env.scope.kind = .function) :
    At n w mean mg mb (dp + 1) (un + 3) gd (env :: outs) base (hid s.heap news) := by
  obtain ⟨_, B, st, _⟩ := groundX (s := s) (A := ar (dp + 1) (un + 3) gd (env :: outs)) (R := fun _ _ => True) C.B F N rfl hf hk
  exact ⟨rfl, B, C.X.keeps st, C.T.keeps st, by have := C.d; omega, by have := C.u; omega⟩
theorem enterL {s : Shared} {R : Result → Shared → Prop} {name : Str} {params : Arguments} {body : List Stmt} {scope : Scope} {pm cd doc oc : Value} {od : Option Addr} {osl : Array (Option Value)} {f : Addr} {args : List Value} {binds : List (Str × Value)} {news : List (Addr × Obj)}
    (C : At n w mean mg mb dp un gd outs base (hid s.heap news)) (hN : ∀ p ∈ news, s.heap.get? p.1 = some p.2) (ho : (hd0.heap_1 w.params).lookup f = some ⟨oc, od, .func (docDef name params body scope pm cd doc), osl⟩) (hcd : codeIn (hd0.heap_1 w.params) cd name = true)
    (hbind : bindArgs (docDef name params body scope pm cd doc) ⟨args, []⟩ = pure binds) (hloc : ∀ y ∈ binds, scope.names.lookup y.1 = some .local)
    (h : ∀ L' h₁, Fr (hid s.heap news) L' h₁ (fun y => binds.reverse.lookup y) → News (hid s.heap news) L' h₁ news → (∀ p ∈ news, p.1 < L') →
      wpAny (model PRG w) ((ar dp un gd outs).deeper (envOf name scope L' f cd)) (execs body (envOf name scope L' f cd))
        (fun fl s' => R (.ok (.ret (match fl with | .ret v => v | _ => .none))) s')
        (fun e s' => wpAny (model PRG w) ((ar dp un gd outs).deeper (envOf name scope L' f cd)) (leaving (envOf name scope L' f cd) e) (fun _ s'' => R (.error e) s'') (fun e' s'' => R (.error e') s'') s')
        { s with heap := h₁, toks := s.toks + binds.length })
    (hco : scope.isCoroutine = false) (hgen : scope.isGenerator = false) (hk : scope.kind = .function)
    (hcell : ∀ x ∈ scope.names, x.2 ≠ .cell) : codeAny (model PRG w) (ar dp un gd outs) (.call (.ref f) ⟨args, []⟩) R s := by
  have st : Keeps (hid s.heap news) s.heap := fun b o e => hid_of e
  refine call_plain (by have := C.d; exact Nat.lt_of_le_of_lt (Nat.le_add_right _ _) this) (st _ _ (C.X _ _ ho)) rfl (C.T.nolimit.keeps st) (codeRec_of (C.X.keeps st) hcd) hbind hloc (fun h₁ F => h _ h₁ ⟨F.ns, fun b o e => F.keep b o (st b o e), Nat.le_of_eq (hideAll_size _ _)⟩ (fun p hp => ?_) (fun p hp => Heap.lt_size (hN p hp))) hco hgen hk hcell
  exact ⟨F.keep _ _ (hN p hp), Nat.ne_of_lt (Heap.lt_size (hN p hp)), hideAll_none _ (List.mem_map_of_mem hp)⟩
theorem enterLC {s : Shared} {R : Result → Shared → Prop} {name : Str} {params : Arguments} {body : List Stmt} {scope : Scope} {pm cd doc oc : Value} {od : Option Addr} {osl : Array (Option Value)} {f : Addr} {args : List Value} {binds : List (Str × Value)} {news : List (Addr × Obj)}
    (C : At n w mean mg mb dp un gd outs base (hid s.heap news)) (hN : ∀ p ∈ news, s.heap.get? p.1 = some p.2) (ho : (hd0.heap_1 w.params).lookup f = some ⟨oc, od, .func (docDef name params body scope pm cd doc), osl⟩) (hcd : codeIn (hd0.heap_1 w.params) cd name = true)
    (hbind : bindArgs (docDef name params body scope pm cd doc) ⟨args, []⟩ = pure binds)
    (hkind : (binds.all fun y => scope.names.lookup y.1 == some .local || scope.names.lookup y.1 == some .cell) = true)
    (hnd : ((cellsFrom 0 scope.names []).map (·.1)).Nodup)
    (h : ∀ L' h₁ tk cells, Fr (hid s.heap news) L' h₁ (bindL (envOfC name scope L' f cd).kindOf binds fun _ => none) → News (hid s.heap news) L' h₁ (cells ++ news) →
      CellsAre (bindC (envOfC name scope L' f cd).kindOf binds fun _ => none) (cellsFrom (L' + 1) scope.names []) cells → (∀ p ∈ news, p.1 < L') →
      wpAny (model PRG w) ((ar dp un gd outs).deeper (envOfC name scope L' f cd)) (execs body (envOfC name scope L' f cd))
        (fun fl s' => R (.ok (.ret (match fl with | .ret v => v | _ => .none))) s')
        (fun e s' => wpAny (model PRG w) ((ar dp un gd outs).deeper (envOfC name scope L' f cd)) (leaving (envOfC name scope L' f cd) e) (fun _ s'' => R (.error e) s'') (fun e' s'' => R (.error e') s'') s')
        { s with heap := h₁, toks := tk })
    (hco : scope.isCoroutine = false) (hgen : scope.isGenerator = false) (hk : scope.kind = .function) : codeAny (model PRG w) (ar dp un gd outs) (.call (.ref f) ⟨args, []⟩) R s := by
  have st : Keeps (hid s.heap news) s.heap := fun b o e => hid_of e
  refine call_cellsN (by have := C.d; exact Nat.lt_of_le_of_lt (Nat.le_add_right _ _) this) (st _ _ (C.X _ _ ho)) rfl (C.T.nolimit.keeps st) (codeRec_of (C.X.keeps st) hcd) hbind (kindsX hkind _) hnd (fun h₁ tk cells F N Y => h _ h₁ tk cells ⟨F.ns, fun b o e => F.keep b o (st b o e), Nat.le_of_eq (hideAll_size _ _)⟩ (fun p hp => ?_) Y (fun p hp => Heap.lt_size (hN p hp))) hco hgen hk
  rcases List.mem_append.mp hp with hp | hp
  · refine ⟨(N p hp).1, (N p hp).2.1, ?_⟩
    cases q : (hid s.heap news).get? p.1 with
    | none => rfl
    | some o => have := hid_of q; rw [(N p hp).2.2] at this; cases this
  · exact ⟨F.keep _ _ (hN p hp), Nat.ne_of_lt (Heap.lt_size (hN p hp)), hideAll_none _ (List.mem_map_of_mem hp)⟩
theorem enterG {s : Shared} {R : Result → Shared → Prop} {name : Str} {params : Arguments} {body : List Stmt} {scope : Scope} {pm cd doc oc : Value} {od : Option Addr} {osl : Array (Option Value)} {f : Addr} {args : List Value} {binds : List (Str × Value)} {news : List (Addr × Obj)}
    (X : (hd0.heap_1 w.params).In (hid s.heap news)) (T : Top VW LS mean mg mb (hid s.heap news)) (hdp : dp < recursionLimit) (hN : ∀ p ∈ news, s.heap.get? p.1 = some p.2) (ho : (hd0.heap_1 w.params).lookup f = some ⟨oc, od, .func (docDef name params body scope pm cd doc), osl⟩) (hcd : codeIn (hd0.heap_1 w.params) cd name = true)
    (hbind : bindArgs (docDef name params body scope pm cd doc) ⟨args, []⟩ = pure binds) (hloc : ∀ y ∈ binds, scope.names.lookup y.1 = some .local)
    (h : ∀ L' h₁, Fr (hid s.heap news) L' h₁ (fun y => binds.reverse.lookup y) → News (hid s.heap news) L' h₁ news → (∀ p ∈ news, p.1 < L') →
      wpAny (model PRG w) ((ar dp un gd outs).deeper (envOf name scope L' f cd)) (execs body (envOf name scope L' f cd))
        (fun fl s' => R (.ok (.ret (match fl with | .ret v => v | _ => .none))) s')
        (fun e s' => wpAny (model PRG w) ((ar dp un gd outs).deeper (envOf name scope L' f cd)) (leaving (envOf name scope L' f cd) e) (fun _ s'' => R (.error e) s'') (fun e' s'' => R (.error e') s'') s')
        { s with heap := h₁, toks := s.toks + binds.length })
    (hco : scope.isCoroutine = false) (hgen : scope.isGenerator = false) (hk : scope.kind = .function)
    (hcell : ∀ x ∈ scope.names, x.2 ≠ .cell) : codeAny (model PRG w) (ar dp un gd outs) (.call (.ref f) ⟨args, []⟩) R s := by
  have st : Keeps (hid s.heap news) s.heap := fun b o e => hid_of e
  refine call_plain hdp (st _ _ (X _ _ ho)) rfl (T.nolimit.keeps st) (codeRec_of (X.keeps st) hcd) hbind hloc (fun h₁ F => h _ h₁ ⟨F.ns, fun b o e => F.keep b o (st b o e), Nat.le_of_eq (hideAll_size _ _)⟩ (fun p hp => ?_) (fun p hp => Heap.lt_size (hN p hp))) hco hgen hk hcell
  exact ⟨F.keep _ _ (hN p hp), Nat.ne_of_lt (Heap.lt_size (hN p hp)), hideAll_none _ (List.mem_map_of_mem hp)⟩
theorem enterGC {s : Shared} {R : Result → Shared → Prop} {name : Str} {params : Arguments} {body : List Stmt} {scope : Scope} {pm cd doc oc : Value} {od : Option Addr} {osl : Array (Option Value)} {f : Addr} {args : List Value} {binds : List (Str × Value)} {news : List (Addr × Obj)}
    (X : (hd0.heap_1 w.params).In (hid s.heap news)) (T : Top VW LS mean mg mb (hid s.heap news)) (hdp : dp < recursionLimit) (hN : ∀ p ∈ news, s.heap.get? p.1 = some p.2) (ho : (hd0.heap_1 w.params).lookup f = some ⟨oc, od, .func (docDef name params body scope pm cd doc), osl⟩) (hcd : codeIn (hd0.heap_1 w.params) cd name = true)
    (hbind : bindArgs (docDef name params body scope pm cd doc) ⟨args, []⟩ = pure binds)
    (hkind : (binds.all fun y => scope.names.lookup y.1 == some .local || scope.names.lookup y.1 == some .cell) = true)
    (hnd : ((cellsFrom 0 scope.names []).map (·.1)).Nodup)
    (h : ∀ L' h₁ tk cells, Fr (hid s.heap news) L' h₁ (bindL (envOfC name scope L' f cd).kindOf binds fun _ => none) → News (hid s.heap news) L' h₁ (cells ++ news) →
      CellsAre (bindC (envOfC name scope L' f cd).kindOf binds fun _ => none) (cellsFrom (L' + 1) scope.names []) cells → (∀ p ∈ news, p.1 < L') →
      wpAny (model PRG w) ((ar dp un gd outs).deeper (envOfC name scope L' f cd)) (execs body (envOfC name scope L' f cd))
        (fun fl s' => R (.ok (.ret (match fl with | .ret v => v | _ => .none))) s')
        (fun e s' => wpAny (model PRG w) ((ar dp un gd outs).deeper (envOfC name scope L' f cd)) (leaving (envOfC name scope L' f cd) e) (fun _ s'' => R (.error e) s'') (fun e' s'' => R (.error e') s'') s')
        { s with heap := h₁, toks := tk })
    (hco : scope.isCoroutine = false) (hgen : scope.isGenerator = false) (hk : scope.kind = .function) : codeAny (model PRG w) (ar dp un gd outs) (.call (.ref f) ⟨args, []⟩) R s := by
  have st : Keeps (hid s.heap news) s.heap := fun b o e => hid_of e
  refine call_cellsN hdp (st _ _ (X _ _ ho)) rfl (T.nolimit.keeps st) (codeRec_of (X.keeps st) hcd) hbind (kindsX hkind _) hnd (fun h₁ tk cells F N Y => h _ h₁ tk cells ⟨F.ns, fun b o e => F.keep b o (st b o e), Nat.le_of_eq (hideAll_size _ _)⟩ (fun p hp => ?_) Y (fun p hp => Heap.lt_size (hN p hp))) hco hgen hk
  rcases List.mem_append.mp hp with hp | hp
  · refine ⟨(N p hp).1, (N p hp).2.1, ?_⟩
    cases q : (hid s.heap news).get? p.1 with
    | none => rfl
    | some o => have := hid_of q; rw [(N p hp).2.2] at this; cases this
  · exact ⟨F.keep _ _ (hN p hp), Nat.ne_of_lt (Heap.lt_size (hN p hp)), hideAll_none _ (List.mem_map_of_mem hp)⟩
theorem hid_stays {base h : Heap} {news : List (Addr × Obj)} (hb : base.StaysIn h) (hn : ∀ p ∈ news, base.get? p.1 = none) : base.StaysIn (hid h news) := fun b o e => hideAll_get _ (hb b o e) (fun hm => by
  obtain ⟨p, hp, rfl⟩ := List.mem_map.mp hm
  rw [hn p hp] at e; cases e)
def KeepsF (fs : List (Addr × Obj)) (h h' : Heap) : Prop := (∀ b o, h.get? b = some o → (∀ p ∈ fs, p.1 ≠ b) → h'.get? b = some o) ∧ ∀ p ∈ fs, ∃ sl, h'.get? p.1 = some { p.2 with slots := sl }
theorem hidF_keeps {h h' : Heap} {args fs : List (Addr × Obj)} (hn : ∀ p ∈ args ++ fs, h.get? p.1 = some p.2) (hk : Keeps (hid h (args ++ fs)) h') (ha : ∀ p ∈ args, h'.get? p.1 = some p.2) (hf : ∀ p ∈ fs, ∃ sl, h'.get? p.1 = some { p.2 with slots := sl }) : KeepsF fs h h' := by
  refine ⟨fun b o e nb => ?_, hf⟩
  by_cases hb : b ∈ (args ++ fs).map (·.1)
  · obtain ⟨p, hp, rfl⟩ := List.mem_map.mp hb
    have h2 : h.get? p.1 = some o := e
    rw [hn p hp] at h2
    rw [← Option.some.inj h2]
    rcases List.mem_append.mp hp with hp | hp
    · exact ha p hp
    · exact absurd rfl (nb p hp)
  · exact hk b o (hideAll_get _ e hb)
theorem newIn_of {h₀ h : Heap} {L : Addr} {news tl : List (Addr × Obj)} (N : News h₀ L h news) (hs : ∀ p ∈ tl, p ∈ news) : NewIn h₀ h tl := fun p hp => ⟨(N p (hs p hp)).1, (N p (hs p hp)).2.2⟩
theorem newsKeep {h₀ h h' : Heap} {L : Addr} {news : List (Addr × Obj)} (N : News h₀ L h news) (hk : Keeps h h') : News h₀ L h' news := fun p hp => ⟨hk _ _ (N p hp).1, (N p hp).2⟩
theorem newsMore {h₀ h h' : Heap} {L : Addr} {m : Str → Option Value} {news tl : List (Addr × Obj)} (F : Fr h₀ L h m) (N : News h₀ L h news) (hk : Keeps h h') (hn : NewIn h h' tl) : News h₀ L h' (tl ++ news) := by
  intro p hp
  rcases List.mem_append.mp hp with hp | hp
  · refine ⟨(hn p hp).1, fun e => ?_, ?_⟩
    · obtain ⟨o, _, _, ho, _⟩ := F.ns
      have := (hn p hp).2
      rw [e, ho] at this; cases this
    · cases q : h₀.get? p.1 with
      | none => rfl
      | some o => have := (hn p hp).2; rw [F.keep _ _ q] at this; cases this
  · exact newsKeep N hk p hp
def NeOf (d : Addr) : List (Addr × Obj) → Prop
  | [] => True
  | p :: r => p.1 ≠ d ∧ NeOf d r
theorem neOf {h₀ h h' : Heap} {L : Addr} {tl : List (Addr × Obj)} {d : Addr} {o : Obj} (hn : NewIn h h' tl) (hd : (d, o) ∈ tl) : ∀ {news : List (Addr × Obj)}, News h₀ L h news → NeOf d news
  | [], _ => trivial
  | p :: r, N => ⟨fun e => (by have h1 := (N p (.head _)).1; have h2 := (hn _ hd).2; rw [e] at h1; rw [show h.get? d = none from h2] at h1; cases h1), neOf hn hd (fun q hq => N q (.tail _ hq))⟩
end
end Mine
end
section
open PySem PySem.W PyProof.Rows PySem.Calls
set_option Elab.async false
set_option maxRecDepth 100000
set_option maxHeartbeats 4000000
namespace Mine
section
variable {prog : Program} {w : World} {A : Around} {E : Value → Shared → Prop} {s : Shared}
theorem sub_str : isSubtype (.type "str") (.type "str") = pure true := by rw [isSubtype_type]; kernel_rfl
theorem nested_str {k : Value} {dep : Int} {tk : Tok} {Q : PySem.Fin → Shared → Prop} (hk : k = .int dep tk) (hq : Q (.done (.ret (.bool true))) s) :
    wpAny (model prog w) A (Builtin.«issubclass.nested» ⟨[.type "str", .type "str", k], []⟩) Q E s := by
  subst hk
  have h1 := sub_str
  repeat (any_goals (first | assumption | (rw [h1]) | wp_step))
theorem args_nested (a b c : Value) : argsOk "issubclass.nested" ⟨[a, b, c], []⟩ := by unfold argsOk; kernel_rfl
theorem kind_nested : builtinKind "issubclass.nested" = none := by decide +kernel
theorem plain_nested : plainId "issubclass.nested" = true := by decide +kernel
theorem nested_tup {tp : Addr} {cs : List Value} {tk : Tok} {Q : PySem.Fin → Shared → Prop} (hcs : cs = [.type "str", .type "bytes"]) (htp : s.heap.get? tp = some { cls := .type "tuple", data := .seq cs.toArray }) (hq : Q (.done (.ret (.bool true))) s) :
    wpAny (model prog w) A (Builtin.«issubclass.nested» ⟨[.type "str", .ref tp, .int 0 tk], []⟩) Q E s := by
  obtain ⟨h, g, d, t, os⟩ := s
  have hT2 : (⟨h, g, d, t, os⟩ : Shared).TypeIs (.ref tp) "tuple" := ⟨_, htp, rfl⟩
  have f1 := F.isi_sub_tuple
  repeat (any_goals (first | assumption | wp_step))
  refine wpAny_arrayLoop ?_
  subst hcs
  simp only [Option.getD_some, List.toList_toArray]
  rw [List.forIn_cons]
  refine wpAny_bind (wpAny_bind (call_function_meets (S := fun _ R s => R (.ok (.ret (.bool true))) s) kind_nested plain_nested F.entry_issubclass_nested (args_nested _ _ _) (fun _ _ _ _ _ hs => nested_str rfl hs) ?_))
  show wpAny _ _ (truthy (.bool true) >>= _) _ _ _
  refine wpAny_bind (m := truthy (.bool true)) (wpAny_pure ?_)
  exact wpAny_bind (wpAny_pure (wpAny_pure (wpAny_pure (wpAny_pure hq))))
theorem call_issub {tp : Addr} {cs : List Value} {Q : Value → Shared → Prop} (htp : s.heap.get? tp = some { cls := .type "tuple", data := .seq cs.toArray }) (hcs : cs = [.type "str", .type "bytes"]) (hq : Q (.bool true) s) :
    wpAny (model prog w) A (call (.builtin "issubclass") [.type "str", .ref tp]) Q E s :=
  call_issubclass (S := fun _ R s => s.heap.get? tp = some { cls := .type "tuple", data := .seq cs.toArray } ∧ R (.ok (.ret (.bool true))) s) (fun _ _ _ _ _ hs => issubclass_outer (nested_tup hcs hs.1 hs.2)) ⟨htp, hq⟩
end
end Mine
end
section
open PySem PySem.W PyProof.Rows PySem.Calls
set_option Elab.async false
set_option maxRecDepth 100000
set_option maxHeartbeats 4000000
namespace Mine
theorem c_fspath {w : World} {mean : ExcName → Option Value} {mg mb : Str → Option Value} {dp un : Nat} {gd : Option (List Code)} {outs : List Env} {base : Heap} {s : Shared} {E Q : Value → Shared → Prop} {x : Str} {t : Tok}
    (C : At 1 w mean mg mb dp un gd outs base s.heap)
    (hret : ∀ t' h' tk, Keeps s.heap h' → Q (.str x t') { s with heap := h', toks := tk }) :
    wpAny (model Challenge.rw_il0057_01.row.prog w) (ar dp un gd outs) (call (.ref 94) [.str x t]) Q E s := by
  k_with_none
  k_with "mine_enter" => (
      (have BQ := At.B (by assumption)); (have XQ := At.X (by assumption)); (have TQ := At.T (by assumption)); (have lQ := At.law (by assumption))
      revert XQ lQ; k_fill; intro XQ lQ; clear lQ
      refine wpAny_call ?_
      refine' enter ?C ?ho ?hcd ?hb ?hl ?_ ?c2 ?c3 ?c4 ?c5; (case C => assumption); (case ho => k_dflt k_is); (case hcd => k_dflt k_is); (case hb => exact rfl); (case hl => exact locs rfl); (case c2 => exact rfl); (case c3 => exact rfl); (case c4 => exact rfl); (case c5 => decide)
      intro LQ1 h₁Q FQ1 NQ1
      (try dsimp only)
      (try k_fold))
  k_with "call builtin:issubclass" => (k_here; k_dflt (refine' call_issub ?k1 ?k2 ?_; (case k1 => exact News.get (by k_asm) (by k_mem)); (case k2 => exact rfl); k_whole))
  walk_at "mine_enter"
  k_steps
  (rename Fr _ _ _ _ => F9); exact hret _ _ _ F9.keep
theorem c_get_sep {w : World} {mean : ExcName → Option Value} {mg mb : Str → Option Value} {dp un : Nat} {gd : Option (List Code)} {outs : List Env} {base : Heap} {s : Shared} {E Q : Value → Shared → Prop} {x : Str} {t : Tok}
    (C : At 1 w mean mg mb dp un gd outs base s.heap)
    (hret : ∀ t' h' tk, Keeps s.heap h' → Q (.str (Str.ofString "/") t') { s with heap := h', toks := tk }) :
    wpAny (model Challenge.rw_il0057_01.row.prog w) (ar dp un gd outs) (call (.ref 108) [.str x t]) Q E s := by
  k_with_none
  k_with "mine_enter" => (
      (have BQ := At.B (by assumption)); (have XQ := At.X (by assumption)); (have TQ := At.T (by assumption)); (have lQ := At.law (by assumption))
      revert XQ lQ; k_fill; intro XQ lQ; clear lQ
      refine wpAny_call ?_
      refine' enter ?C ?ho ?hcd ?hb ?hl ?_ ?c2 ?c3 ?c4 ?c5; (case C => assumption); (case ho => k_dflt k_is); (case hcd => k_dflt k_is); (case hb => exact rfl); (case hl => exact locs rfl); (case c2 => exact rfl); (case c3 => exact rfl); (case c4 => exact rfl); (case c5 => decide)
      intro LQ1 h₁Q FQ1 NQ1
      (try dsimp only)
      (try k_fold))
  k_with "call builtin:issubclass" => (k_here; k_dflt (refine' call_issub ?k1 ?k2 ?_; (case k1 => exact News.get (by k_asm) (by k_mem)); (case k2 => exact rfl); k_whole))
  walk_at "mine_enter"
  k_steps
  (rename Fr _ _ _ _ => F9); exact hret _ _ _ F9.keep
end Mine
end
section
open PySem PySem.W PyProof.Rows PySem.Calls
set_option Elab.async false
set_option maxRecDepth 100000
set_option maxHeartbeats 4000000
namespace Mine
def cutAt (x : Str) : Str := Txt.slice x none (some (Txt.rfind x (Str.ofString "/") + 1))
def tailOf (x : Str) : Str := Txt.slice x (some (Txt.rfind x (Str.ofString "/") + 1)) none
def headOf (x : Str) : Str :=
  if ((cutAt x).length : Int) ≠ 0 then if (cutAt x != Txt.mul (Str.ofString "/") (cutAt x).length) = true then Txt.rstripChars (cutAt x) (Str.ofString "/") else cutAt x else cutAt x
theorem headOf1 {x : Str} (h1 : ((cutAt x).length : Int) ≠ 0) (h2 : (cutAt x != Txt.mul (Str.ofString "/") (cutAt x).length) = true) : headOf x = Txt.rstripChars (cutAt x) (Str.ofString "/") := by
  rw [headOf, if_pos h1, if_pos h2]
theorem headOf2 {x : Str} (h1 : ((cutAt x).length : Int) ≠ 0) (h2 : (cutAt x != Txt.mul (Str.ofString "/") (cutAt x).length) = false) : headOf x = cutAt x := by
  rw [headOf, if_pos h1, if_neg (by rw [h2]; decide)]
theorem headOf3 {x : Str} (h1 : ((cutAt x).length : Int) = 0) : headOf x = cutAt x := by
  rw [headOf, if_neg (fun h => h h1)]
theorem c_split {w : World} {mean : ExcName → Option Value} {mg mb : Str → Option Value} {dp un : Nat} {gd : Option (List Code)} {outs : List Env} {base : Heap} {s : Shared} {E Q : Value → Shared → Prop} {x : Str} {t : Tok}
    (C : At 3 w mean mg mb dp un gd outs base s.heap) (hsz : x.length ≤ 1000000)
    (hret : ∀ D t1 t2 h' tk, Keeps s.heap h' → NewIn s.heap h' [(D, { cls := .type "tuple", data := .seq #[.str (headOf x) t1, .str (tailOf x) t2] })] → Q (.ref D) { s with heap := h', toks := tk }) :
    wpAny (model Challenge.rw_il0057_01.row.prog w) (ar dp un gd outs) (call (.ref 122) [.str x t]) Q E s := by
  k_with_none
  k_with "mine_enter" => (
      (have BQ := At.B (by assumption)); (have XQ := At.X (by assumption)); (have TQ := At.T (by assumption)); (have lQ := At.law (by assumption))
      revert XQ lQ; k_fill; intro XQ lQ; clear lQ
      refine wpAny_call ?_
      refine' enter ?C ?ho ?hcd ?hb ?hl ?_ ?c2 ?c3 ?c4 ?c5; (case C => assumption); (case ho => k_dflt k_is); (case hcd => k_dflt k_is); (case hb => exact rfl); (case hl => exact locs rfl); (case c2 => exact rfl); (case c3 => exact rfl); (case c4 => exact rfl); (case c5 => decide)
      intro LQ1 h₁Q FQ1 NQ1
      (try dsimp only)
      (try k_fold))
  k_with "mine_room" => (refine At.less (At.push (by assumption) (by k_asm) rfl rfl) (by decide))
  k_with "mine_back" => (intro hQ1 tkQ1 hkQ1; (rename Fr _ _ _ _ => F9Q); (rename News _ _ _ _ => N9Q); (have FQ1 := Fr.after F9Q hkQ1); (have NQ1 := newsKeep N9Q hkQ1); clear hkQ1; (try k_sweep); (try dsimp only))
  k_with "call ref" => (k_here; (with_reducible show wpAny _ _ (call (Value.ref 94) [Value.str _ _]) _ _ _); k_dflt (refine' c_fspath ?C ?_; (case C => walk_at "mine_room"); k_whole); intro tQ1; walk_at "mine_back")
  k_with "call ref" => (k_here; (with_reducible show wpAny _ _ (call (Value.ref 108) [Value.str _ _]) _ _ _); k_dflt (refine' c_get_sep ?C ?_; (case C => walk_at "mine_room"); k_whole); intro tQ1; walk_at "mine_back")
  have hret' : ∀ hx D t1 t2 h' tk, headOf x = hx → Keeps s.heap h' → NewIn s.heap h' [(D, { cls := .type "tuple", data := .seq #[.str hx t1, .str (tailOf x) t2] })] → Q (.ref D) { s with heap := h', toks := tk } := by
    rintro hx D t1 t2 h' tk rfl hk hn
    exact hret D t1 t2 h' tk hk hn
  clear hret
  walk_at "mine_enter"
  k_steps
  all_goals ((rename Fr _ _ _ _ => F9); (rename News _ _ _ _ => N9))
  all_goals (refine hret' _ _ _ _ _ _ ?_ F9.keep (newIn_of N9 (fun p hp => by rw [List.mem_singleton.mp hp]; exact List.Mem.head _)))
  · exact headOf1 (by assumption) (by assumption)
  · exact headOf2 (by assumption) (by assumption)
  · exact headOf3 (by assumption)
theorem c_dirname {w : World} {mean : ExcName → Option Value} {mg mb : Str → Option Value} {dp un : Nat} {gd : Option (List Code)} {outs : List Env} {base : Heap} {s : Shared} {E Q : Value → Shared → Prop} {x : Str} {t : Tok}
    (C : At 3 w mean mg mb dp un gd outs base s.heap) (hsz : x.length ≤ 1000000)
    (hret : ∀ t' h' tk, Keeps s.heap h' → Q (.str (headOf x) t') { s with heap := h', toks := tk }) :
    wpAny (model Challenge.rw_il0057_01.row.prog w) (ar dp un gd outs) (call (.ref 129) [.str x t]) Q E s := by
  k_with_none
  k_with "mine_enter" => (
      (have BQ := At.B (by assumption)); (have XQ := At.X (by assumption)); (have TQ := At.T (by assumption)); (have lQ := At.law (by assumption))
      revert XQ lQ; k_fill; intro XQ lQ; clear lQ
      refine wpAny_call ?_
      refine' enter ?C ?ho ?hcd ?hb ?hl ?_ ?c2 ?c3 ?c4 ?c5; (case C => assumption); (case ho => k_dflt k_is); (case hcd => k_dflt k_is); (case hb => exact rfl); (case hl => exact locs rfl); (case c2 => exact rfl); (case c3 => exact rfl); (case c4 => exact rfl); (case c5 => decide)
      intro LQ1 h₁Q FQ1 NQ1
      (try dsimp only)
      (try k_fold))
  k_with "mine_room" => (refine At.less (At.push (by assumption) (by k_asm) rfl rfl) (by decide))
  k_with "mine_back" => (intro hQ1 tkQ1 hkQ1; (rename Fr _ _ _ _ => F9Q); (rename News _ _ _ _ => N9Q); (have FQ1 := Fr.after F9Q hkQ1); (have NQ1 := newsKeep N9Q hkQ1); clear hkQ1; (try k_sweep); (try dsimp only))
  k_with "call ref" => (k_here; (with_reducible show wpAny _ _ (call (Value.ref 94) [Value.str _ _]) _ _ _); k_dflt (refine' c_fspath ?C ?_; (case C => walk_at "mine_room"); k_whole); intro tQ1; walk_at "mine_back")
  k_with "call ref" => (k_here; (with_reducible show wpAny _ _ (call (Value.ref 108) [Value.str _ _]) _ _ _); k_dflt (refine' c_get_sep ?C ?_; (case C => walk_at "mine_room"); k_whole); intro tQ1; walk_at "mine_back")
  have hret' : ∀ hx t1 h' tk, headOf x = hx → Keeps s.heap h' → Q (.str hx t1) { s with heap := h', toks := tk } := by
    rintro hx t1 h' tk rfl hk
    exact hret t1 h' tk hk
  clear hret
  walk_at "mine_enter"
  k_steps
  all_goals (rename Fr _ _ _ _ => F9)
  all_goals (refine hret' _ _ _ _ ?_ F9.keep)
  · exact headOf1 (by assumption) (by assumption)
  · exact headOf2 (by assumption) (by assumption)
  · exact headOf3 (by assumption)
def cmp3 (x y : Str) : Int := b2i (decide (y.cps.toList < x.cps.toList)) - b2i (decide (x.cps.toList < y.cps.toList))
theorem c_three {w : World} {mean : ExcName → Option Value} {mg mb : Str → Option Value} {dp un : Nat} {gd : Option (List Code)} {outs : List Env} {base : Heap} {s : Shared} {E Q : Value → Shared → Prop} {x y : Str} {t t' : Tok}
    (C : At 3 w mean mg mb dp un gd outs base s.heap) 
    (hret : ∀ t' h' tk, Keeps s.heap h' → Q (.int (cmp3 x y) t') { s with heap := h', toks := tk }) :
    wpAny (model Challenge.rw_il0057_01.row.prog w) (ar dp un gd outs) (call (.ref 155) [.str x t, .str y t']) Q E s := by
  k_with_none
  k_with "mine_enter" => (
      (have BQ := At.B (by assumption)); (have XQ := At.X (by assumption)); (have TQ := At.T (by assumption)); (have lQ := At.law (by assumption))
      revert XQ lQ; k_fill; intro XQ lQ; clear lQ
      refine wpAny_call ?_
      refine' enter ?C ?ho ?hcd ?hb ?hl ?_ ?c2 ?c3 ?c4 ?c5; (case C => assumption); (case ho => k_dflt k_is); (case hcd => k_dflt k_is); (case hb => exact rfl); (case hl => exact locs rfl); (case c2 => exact rfl); (case c3 => exact rfl); (case c4 => exact rfl); (case c5 => decide)
      intro LQ1 h₁Q FQ1 NQ1
      (try dsimp only)
      (try k_fold))
  k_with "mine_room" => (refine At.less (At.push (by assumption) (by k_asm) rfl rfl) (by decide))
  k_with "mine_back" => (intro hQ1 tkQ1 hkQ1; (rename Fr _ _ _ _ => F9Q); (rename News _ _ _ _ => N9Q); (have FQ1 := Fr.after F9Q hkQ1); (have NQ1 := newsKeep N9Q hkQ1); clear hkQ1; (try k_sweep); (try dsimp only))
  k_with "call ref" => (k_here; (with_reducible show wpAny _ _ (call (Value.ref 94) [Value.str _ _]) _ _ _); k_dflt (refine' c_fspath ?C ?_; (case C => walk_at "mine_room"); k_whole); intro tQ1; walk_at "mine_back")
  k_with "call ref" => (k_here; (with_reducible show wpAny _ _ (call (Value.ref 108) [Value.str _ _]) _ _ _); k_dflt (refine' c_get_sep ?C ?_; (case C => walk_at "mine_room"); k_whole); intro tQ1; walk_at "mine_back")
  walk_at "mine_enter"
  k_steps
  (rename Fr _ _ _ _ => F9); exact hret _ _ _ F9.keep
def fac : Nat → Nat
  | 0 => 1
  | n + 1 => (n + 1) * fac n
theorem c_orders {w : World} {mean : ExcName → Option Value} {mg mb : Str → Option Value} {dp un : Nat} {gd : Option (List Code)} {outs : List Env} {base : Heap} {s : Shared} {E Q : Value → Shared → Prop} {n : Nat} {t : Tok}
    (C : At 3 w mean mg mb dp un gd outs base s.heap) (h5 : n ≤ 5)
    (hret : ∀ t' h' tk, Keeps s.heap h' → Q (.int (fac n) t') { s with heap := h', toks := tk }) :
    wpAny (model Challenge.rw_il0057_01.row.prog w) (ar dp un gd outs) (call (.ref 162) [.int n t]) Q E s := by
  k_with_none
  k_with "mine_enter" => (
      (have BQ := At.B (by assumption)); (have XQ := At.X (by assumption)); (have TQ := At.T (by assumption)); (have lQ := At.law (by assumption))
      revert XQ lQ; k_fill; intro XQ lQ; clear lQ
      refine wpAny_call ?_
      refine' enter ?C ?ho ?hcd ?hb ?hl ?_ ?c2 ?c3 ?c4 ?c5; (case C => assumption); (case ho => k_dflt k_is); (case hcd => k_dflt k_is); (case hb => exact rfl); (case hl => exact locs rfl); (case c2 => exact rfl); (case c3 => exact rfl); (case c4 => exact rfl); (case c5 => decide)
      intro LQ1 h₁Q FQ1 NQ1
      (try dsimp only)
      (try k_fold))
  k_with "mine_room" => (refine At.less (At.push (by assumption) (by k_asm) rfl rfl) (by decide))
  k_with "mine_back" => (intro hQ1 tkQ1 hkQ1; (rename Fr _ _ _ _ => F9Q); (rename News _ _ _ _ => N9Q); (have FQ1 := Fr.after F9Q hkQ1); (have NQ1 := newsKeep N9Q hkQ1); clear hkQ1; (try k_sweep); (try dsimp only))
  k_with "call ref" => (k_here; (with_reducible show wpAny _ _ (call (Value.ref 94) [Value.str _ _]) _ _ _); k_dflt (refine' c_fspath ?C ?_; (case C => walk_at "mine_room"); k_whole); intro tQ1; walk_at "mine_back")
  k_with "call ref" => (k_here; (with_reducible show wpAny _ _ (call (Value.ref 108) [Value.str _ _]) _ _ _); k_dflt (refine' c_get_sep ?C ?_; (case C => walk_at "mine_room"); k_whole); intro tQ1; walk_at "mine_back")
  have hret' : ∀ v t' h' tk, (fac n : Int) = v → Keeps s.heap h' → Q (.int v t') { s with heap := h', toks := tk } := by
    rintro v t1 h' tk rfl hk
    exact hret t1 h' tk hk
  clear hret
  obtain rfl | rfl | rfl | rfl | rfl | rfl : n = 0 ∨ n = 1 ∨ n = 2 ∨ n = 3 ∨ n = 4 ∨ n = 5 := by omega
  all_goals (walk_at "mine_enter")
  all_goals k_steps
  all_goals (rename Fr _ _ _ _ => F9)
  all_goals (refine hret' _ _ _ _ ?_ F9.keep)
  all_goals (decide +kernel)
end Mine
end
section
open PySem PySem.W PyProof.Rows PySem.Calls
set_option Elab.async false
set_option maxRecDepth 100000
set_option maxHeartbeats 4000000
namespace Mine
def dg (k : Int) : UInt8 := UInt8.ofNat (65 + k.toNat)
def apB (n : Int) : Array UInt8 := if n = 0 then #[] else if n < 16 then #[dg n] else if n < 256 then #[dg (n / 16), dg (n % 16)] else #[dg (n / 256), dg (n / 16 % 16), dg (n % 16)]
theorem apB_start {a n : Int} (h : (if n < 0 then -n else n) = a) (h1 : 1 ≤ a) (h2 : a < 4096) : 0 ≤ (if n < 0 then -n else n) ∧ (if n < 0 then -n else n) < 4096 ∧ apB (if n < 0 then -n else n) ++ #[] = apB a := by
  rw [h]; exact ⟨by omega, h2, by simp⟩
theorem apB_nil (v : Array UInt8) : apB 0 ++ v = v := by simp [apB]
theorem picked_dg {r : Int} (h0 : 0 ≤ r) (h : r < 16) : KBy.picked #[65, 66, 67, 68, 69, 70, 71, 72, 73, 74, 75, 76, 77, 78, 79, 80] (some r) (some (r + 1)) = #[dg r] := by
  have key : ∀ k : Fin 16, KBy.picked #[65, 66, 67, 68, 69, 70, 71, 72, 73, 74, 75, 76, 77, 78, 79, 80] (some (k.val : Int)) (some ((k.val : Int) + 1)) = #[dg (k.val : Int)] := by decide +kernel
  have := key ⟨r.toNat, by omega⟩
  rw [show ((⟨r.toNat, by omega⟩ : Fin 16).val : Int) = r by show ((r.toNat : Nat) : Int) = r; omega] at this
  exact this
theorem apB_step {x : Int} (h0 : 0 ≤ x) (h1 : x < 4096) (h2 : x ≠ 0) : apB (x / 16) ++ #[dg (x % 16)] = apB x := by
  by_cases c1 : x < 16
  · have e1 : x / 16 = 0 := by omega
    have e2 : x % 16 = x := by omega
    rw [e1, e2]; simp [apB, h2, c1]
  · by_cases c2 : x < 256
    · have e1 : x / 16 ≠ 0 := by omega
      have e2 : x / 16 < 16 := by omega
      simp [apB, h2, c1, c2, e1, e2]
    · have e1 : x / 16 ≠ 0 := by omega
      have e2 : ¬ x / 16 < 16 := by omega
      have e3 : x / 16 < 256 := by omega
      have e4 : x / 16 / 16 = x / 256 := by omega
      simp only [apB, h2, c1, c2, e1, e2, e3, e4, if_false, if_true]
      simp
theorem ap_turn {x a : Int} {v : Array UInt8} (h0 : 0 ≤ x) (h1 : x < 4096) (h : apB x ++ v = apB a) (h2 : x ≠ 0) :
    0 ≤ x.fdiv 16 ∧ x.fdiv 16 < 4096 ∧ apB (x.fdiv 16) ++ (KBy.picked #[65, 66, 67, 68, 69, 70, 71, 72, 73, 74, 75, 76, 77, 78, 79, 80] (some (x.fmod 16)) (some (x.fmod 16 + 1)) ++ v) = apB a := by
  rw [Int.fdiv_eq_ediv_of_nonneg _ (by decide), Int.fmod_eq_emod_of_nonneg _ (by decide), picked_dg (by omega) (by omega), ← Array.append_assoc, apB_step h0 h1 h2]
  exact ⟨by omega, by omega, h⟩
theorem ap_less {x : Int} (h0 : 0 ≤ x) (h2 : x ≠ 0) : (x.fdiv 16).toNat < x.toNat := by
  rw [Int.fdiv_eq_ediv_of_nonneg _ (by decide)]; omega
theorem apB_size (a : Int) : (apB a).size ≤ 3 := by unfold apB; (repeat' split) <;> simp
theorem ap_val {x a : Int} {v : Array UInt8} (h : apB x ++ v = apB a) : v.size ≤ 3 := by
  have h1 := apB_size a
  rw [← h, Array.size_append] at h1; omega
theorem ap_room {x a : Int} {v : Array UInt8} {lo hi : Option Int} (h : apB x ++ v = apB a) : (KBy.picked #[65, 66, 67, 68, 69, 70, 71, 72, 73, 74, 75, 76, 77, 78, 79, 80] lo hi).size + v.size ≤ sizeLine := by
  have h1 := ap_val h
  have h2 := KBc.size_picked_le #[65, 66, 67, 68, 69, 70, 71, 72, 73, 74, 75, 76, 77, 78, 79, 80] lo hi
  have h3 : (#[65, 66, 67, 68, 69, 70, 71, 72, 73, 74, 75, 76, 77, 78, 79, 80] : Array UInt8).size = 16 := rfl
  rw [sizeLine_eq]; omega
theorem c_ap {w : World} {mean : ExcName → Option Value} {mg mb : Str → Option Value} {dp un : Nat} {gd : Option (List Code)} {outs : List Env} {base : Heap} {s : Shared} {E Q : Value → Shared → Prop} {n a : Int} {t : Tok}
    (C : At 3 w mean mg mb dp un gd outs base s.heap) (hn : (if n < 0 then -n else n) = a) (h0 : 1 ≤ a) (h5 : a < 4096)
    (hret : ∀ t' h' tk, Keeps s.heap h' → Q (.bytes (apB a) t') { s with heap := h', toks := tk }) :
    wpAny (model Challenge.rw_il0057_01.row.prog w) (ar dp un gd outs) (call (.ref 141) [.int n t]) Q E s := by
  k_with_none
  k_with "mine_pre" => (
      (have BQ := At.B (by assumption)); (have XQ := At.X (by assumption)); (have TQ := At.T (by assumption)); (have lQ := At.law (by assumption))
      revert XQ lQ; k_fill; intro XQ lQ; clear lQ
      refine wpAny_call ?_)
  k_with "mine_post" => (
      (case C => assumption); (case ho => k_dflt k_is); (case hcd => k_dflt k_is); (case hb => exact rfl); (case hl => exact locs rfl); (case c2 => exact rfl); (case c3 => exact rfl); (case c4 => exact rfl); (case c5 => decide)
      intro LQ1 h₁Q FQ1 NQ1
      (try dsimp only [List.reverse_cons, List.reverse_nil, List.nil_append, List.cons_append] at FQ1)
      (try dsimp only)
      (try k_fold))
  k_with "exec While" => refine Hold.out ?_
  k_with "subscriptTail" => (k_here; (with_reducible show wpAny _ _ (subscriptTail _ (Expr.Slice _ _ none _) (Value.bytes _ _) (Value.ref _)) _ _ _); (with_reducible rename Fr _ _ _ _ => FQ1); (with_reducible rename News _ _ _ _ => NQ1); (refine KBc.slice_K (s := ⟨_, _, _, _, _⟩) FQ1 NQ1 rfl (by constructor) (by constructor) (by decide +kernel) ?_); intro _ _ _ _ _ kbcKQ; clear kbcKQ)
  k_with "binaryOp Add bytes bytes" => (k_here; (refine KBy.add_bytes (ap_room (by assumption)) ?_); intro _ _)
  walk_at "mine_pre"
  refine' enter (binds := [(Str.ofString "num", .int n t)]) ?C ?ho ?hcd ?hb ?hl ?_ ?c2 ?c3 ?c4 ?c5
  walk_at "mine_post"
  k_steps
  refine Hold.into ?_
  (k_with "state" => first | exact apB_start (by assumption) (by assumption) (by assumption) | exact ap_turn (by assumption) (by assumption) (by assumption) (by assumption))
  (k_with "measure" => exact ap_less (by assumption) (by assumption))
  k_while (fun _ num val => 0 ≤ num ∧ num < 4096 ∧ apB num ++ val = apB a) (fun _ num _ => num.toNat) "num" "val"
  k_steps
  (rename Fr _ _ _ _ => F9); (rename apB _ ++ _ = apB _ => h9); (rename (_ : Int) = 0 => z9)
  rw [z9, apB_nil] at h9
  exact h9 ▸ hret _ _ _ F9.keep
end Mine
end
section
open PySem PySem.W PyProof.Rows PySem.Calls
set_option Elab.async false
set_option maxRecDepth 100000
set_option maxHeartbeats 4000000
namespace Mine
theorem strs_erase : ∀ {vs : List Value} {xs : List Str}, StrsAre vs xs → ∀ k, StrsAre (vs.eraseIdx k) (xs.eraseIdx k)
  | _, _, .nil, _ => .nil
  | _, _, .cons x t h, 0 => h
  | _, _, .cons x t h, k + 1 => .cons x t (strs_erase h k)
theorem cut_of : ∀ {vs : List Value} {k : Nat} {y : Value}, vs[k]? = some y → kl_cut vs k = some (vs.take k, y, vs.drop (k + 1))
  | v :: r, 0, y, h => by simp at h; subst h; rfl
  | v :: r, k + 1, y, h => by
    have h' : r[k]? = some y := by simpa using h
    unfold kl_cut
    rw [cut_of h']
    rfl
section
variable {prog : Program} {w : World} {A : Around} {E : Value → Shared → Prop} {s : Shared} {h₀ : Heap} {L D : Addr} {m : Str → Option Value} {news news' : List (Addr × Obj)}
theorem popStr {i : Int} {u : Tok} {n : Nat} {vs : List Value} {xs : List Str} {Q : Value → Shared → Prop} (F : Fr h₀ L s.heap m) (N : News h₀ L s.heap news) (hS : StrsAre vs xs) (h0 : 0 ≤ i) (h1 : i < xs.length) (hsz : xs.length ≤ 5)
    (U : Upd D (listOf vs.toArray n) (listOf (vs.eraseIdx i.toNat).toArray (n + 1)) news news')
    (h : ∀ h' t, Fr h₀ L h' m → News h₀ L h' news' → StrsAre (vs.eraseIdx i.toNat) (xs.eraseIdx i.toNat) → Q (.str (xs.getD i.toNat Str.empty) t) { s with heap := h' }) : wpAny (model prog w) A (call (.builtin "list.pop") [.ref D, .int i u]) Q E s := by
  have hl := hS.length
  obtain ⟨t, ht⟩ := hS.get i.toNat (xs.getD i.toNat Str.empty) (by rw [List.getElem?_eq_getElem (by omega)]; simp [List.getD, List.getElem?_eq_getElem (show i.toNat < xs.length by omega)])
  refine kl_popAt F N ?_ (k := i.toNat) ?_ (by exact cut_of ht) (by rw [← List.eraseIdx_eq_take_drop_succ]; exact U) (by rw [PySem.sizeLine_eq]; show vs.length ≤ _; omega) (fun h' F' N' => h h' t F' N' (strs_erase hS _))
  · unfold Builtin.List.listFitsIndex; simp only [Bool.and_eq_true, decide_eq_true_eq]; omega
  · exact StrLaws.seqIndex_nonneg h0 (by rw [List.size_toArray]; omega)
end
def facZ (z : Int) : Int := (fac z.toNat : Int)
theorem fac_pos : ∀ n, 0 < fac n
  | 0 => Nat.one_pos
  | n + 1 => Nat.mul_pos (Nat.succ_pos n) (fac_pos n)
theorem facZ_pos (z : Int) : 0 < facZ z := by unfold facZ; have := fac_pos z.toNat; omega
theorem fac_le5 {n : Nat} (h : n ≤ 5) : fac n ≤ 120 := by
  obtain rfl | rfl | rfl | rfl | rfl | rfl : n = 0 ∨ n = 1 ∨ n = 2 ∨ n = 3 ∨ n = 4 ∨ n = 5 := by omega
  all_goals decide
theorem c_ordersZ {w : World} {mean : ExcName → Option Value} {mg mb : Str → Option Value} {dp un : Nat} {gd : Option (List Code)} {outs : List Env} {base : Heap} {s : Shared} {E Q : Value → Shared → Prop} {z : Int} {t : Tok}
    (C : At 3 w mean mg mb dp un gd outs base s.heap) (h0 : 0 ≤ z) (h5 : z ≤ 5)
    (hret : ∀ t' h' tk, 0 < facZ z → facZ z ≤ 120 → Keeps s.heap h' → Q (.int (facZ z) t') { s with heap := h', toks := tk }) :
    wpAny (model Challenge.rw_il0057_01.row.prog w) (ar dp un gd outs) (call (.ref 162) [.int z t]) Q E s := by
  have e : z = ((z.toNat : Nat) : Int) := by omega
  have := @c_orders w mean mg mb dp un gd outs base s E Q z.toNat t C (by omega) (fun t' h' tk hk => hret t' h' tk (facZ_pos z) (by have := @fac_le5 z.toNat (by omega); unfold facZ; omega) hk)
  rw [← e] at this
  exact this
theorem lstAt {h₀ h : Heap} {L D : Addr} {news : List (Addr × Obj)} {items : Array Value} {n : Nat} (N : News h₀ L h news) (hm : (D, listOf items n) ∈ news) : h.IsList D items := ⟨_, (N _ hm).1, rfl, n, rfl⟩
theorem facZ_nat {j : Nat} : facZ (((j + 1 : Nat) : Int) - 1) = (fac j : Int) := by
  unfold facZ; rw [show (((j + 1 : Nat) : Int) - 1).toNat = j by omega]
theorem row_i0 {told z : Int} (h : 0 ≤ told) : 0 ≤ told.fdiv (facZ z) := by
  have := facZ_pos z
  rw [Int.fdiv_eq_ediv_of_nonneg _ (by omega)]; exact Int.ediv_nonneg h (by omega)
theorem row_i1 {told : Int} {k j : Nat} (e : j = k) (h : told < fac (k + 1)) : told.fdiv (facZ (((j + 1 : Nat) : Int) - 1)) < ((k + 1 : Nat) : Int) := by
  have := fac_pos j
  rw [facZ_nat, Int.fdiv_eq_ediv_of_nonneg _ (by omega)]
  refine Int.ediv_lt_of_lt_mul (by omega) ?_
  subst e
  have e2 : fac (j + 1) = (j + 1) * fac j := rfl
  rw [e2] at h
  simpa using h
def rowN : Nat → Nat → List Str → List Str
  | 0, _, _ => []
  | k + 1, told, xs => xs.getD (told / fac (xs.length - 1)) Str.empty :: rowN k (told % fac (xs.length - 1)) (xs.eraseIdx (told / fac (xs.length - 1)))
theorem row_turn {told : Int} {x : Str} {j : Nat} {xs1 ys tgt : List Str} (e : j = xs1.length) (h0 : 0 ≤ told) (h1 : told < fac (xs1.length + 1)) (h2 : xs1.length + 1 + ys.length ≤ 5)
    (h3 : ys ++ rowN (xs1.length + 1) told.toNat (x :: xs1) = tgt) :
    (0 ≤ told.fmod (facZ (((j + 1 : Nat) : Int) - 1)) ∧ told.fmod (facZ (((j + 1 : Nat) : Int) - 1)) < fac (((x :: xs1).eraseIdx (told.fdiv (facZ (((j + 1 : Nat) : Int) - 1))).toNat).length) ∧
      ((x :: xs1).eraseIdx (told.fdiv (facZ (((j + 1 : Nat) : Int) - 1))).toNat).length + (ys ++ [(x :: xs1).getD (told.fdiv (facZ (((j + 1 : Nat) : Int) - 1))).toNat Str.empty]).length ≤ 5 ∧
      ys ++ [(x :: xs1).getD (told.fdiv (facZ (((j + 1 : Nat) : Int) - 1))).toNat Str.empty] ++ rowN (((x :: xs1).eraseIdx (told.fdiv (facZ (((j + 1 : Nat) : Int) - 1))).toNat).length) (told.fmod (facZ (((j + 1 : Nat) : Int) - 1))).toNat ((x :: xs1).eraseIdx (told.fdiv (facZ (((j + 1 : Nat) : Int) - 1))).toNat) = tgt) ∧
    ((x :: xs1).eraseIdx (told.fdiv (facZ (((j + 1 : Nat) : Int) - 1))).toNat).length < (x :: xs1).length := by
  have hi0 := @row_i0 told (((j + 1 : Nat) : Int) - 1) h0
  have hi1 := row_i1 e h1
  have hp := fac_pos j
  rw [facZ_nat] at hi0 hi1 ⊢
  have hlen : ((x :: xs1).eraseIdx (told.fdiv (fac j : Int)).toNat).length = xs1.length := by
    rw [List.length_eraseIdx, if_pos (by rw [List.length_cons]; omega), List.length_cons]; omega
  rw [hlen]
  have hd : (told.fdiv (fac j : Int)).toNat = told.toNat / fac j := by
    rw [Int.fdiv_eq_ediv_of_nonneg _ (by omega)]
    conv => lhs; rw [show told = ((told.toNat : Nat) : Int) by omega]
    rw [← Int.natCast_ediv]; rfl
  have hm : (told.fmod (fac j : Int)).toNat = told.toNat % fac j := by
    rw [Int.fmod_eq_emod_of_nonneg _ (by omega)]
    conv => lhs; rw [show told = ((told.toNat : Nat) : Int) by omega]
    rw [← Int.natCast_emod]; rfl
  refine ⟨⟨Int.fmod_nonneg_of_pos _ (by omega), ?_, by simp; omega, ?_⟩, by simp⟩
  · rw [← e]; exact Int.fmod_lt_of_pos _ (by omega)
  · rw [hd, hm, ← h3, List.append_assoc]
    congr 1
    rw [rowN, List.length_cons, e]
    simp
structure RSt where
  vs : List Value
  xs : List Str
  told : Int
  tk : Tok
  rs : List Value
  ys : List Str
  e1 : Nat
  e2 : Nat
theorem c_row {w : World} {mean : ExcName → Option Value} {mg mb : Str → Option Value} {dp un : Nat} {gd : Option (List Code)} {outs : List Env} {base h₀ : Heap} {L : Addr} {m : Str → Option Value} {env : Env} {s : Shared} {E Q : Value → Shared → Prop} {n : Int} {t : Tok} {l : Addr} {c : Nat} {vs : List Value} {xs : List Str}
    (C : At 5 w mean mg mb dp un gd outs base h₀) (F : Fr h₀ L s.heap m) (hf : env.frame = some L) (hk : env.scope.kind = .function) (N : News h₀ L s.heap [(l, listOf vs.toArray c)]) (hS : StrsAre vs xs) (hx : xs.length ≤ 5) (hn0 : 0 ≤ n) (hn1 : n < fac xs.length)
    (hret : ∀ D rs c' h' tk, Keeps s.heap h' → NewIn s.heap h' [(D, listOf rs.toArray c')] → StrsAre rs (rowN xs.length n.toNat xs) → Q (.ref D) { s with heap := h', toks := tk }) :
    wpAny (model Challenge.rw_il0057_01.row.prog w) (ar (dp + 1) (un + 3) gd (env :: outs)) (call (.ref 176) [.int n t, .ref l]) Q E s := by
  k_with_none
  k_with "mine_pre" => (
      (have BQ := At.B (by assumption)); (have XQ := At.X (by assumption)); (have TQ := At.T (by assumption)); (have lQ := At.law (by assumption))
      revert XQ lQ; k_fill; intro XQ lQ; clear lQ
      refine wpAny_call ?_)
  k_with "mine_post" => (
      (case C => assumption); (case ho => k_dflt k_is); (case hcd => k_dflt k_is); (case hb => exact rfl); (case hl => exact locs rfl); (case c2 => exact rfl); (case c3 => exact rfl); (case c4 => exact rfl); (case c5 => decide)
      intro LQ1 h₁Q FQ1 NQ1
      (try dsimp only [List.reverse_cons, List.reverse_nil, List.nil_append, List.cons_append] at FQ1)
      (try dsimp only)
      (try k_fold))
  k_with "mine_postC" => (
      (case C => assumption); (case ho => k_dflt k_is); (case hcd => k_dflt k_is); (case hb => exact rfl); (case hl => exact rfl); (case hnd => decide +kernel); (case c2 => exact rfl); (case c3 => exact rfl); (case c4 => exact rfl)
      intro LQ1 h₁Q tkQ1 cellsQ1 FQ1 NQ1 YQ1
      k_cells YQ1
      (try simp only [List.cons_append, List.nil_append] at NQ1)
      (try dsimp only)
      (try k_fold))
  k_with "mine_preL" => (
      (have BQ := At.B (by assumption)); (have XQ := At.X (by assumption)); (have TQ := At.T (by assumption)); (have lQ := At.law (by assumption))
      revert XQ lQ; k_fill; intro XQ lQ; clear lQ
      refine wpAny_call ?_)
  k_with "mine_postL" => (
      (case C => assumption); (case hN => assumption); (case ho => k_dflt k_is); (case hcd => k_dflt k_is); (case hb => exact rfl); (case hl => exact locs rfl); (case c2 => exact rfl); (case c3 => exact rfl); (case c4 => exact rfl); (case c5 => decide)
      intro LQ1 h₁Q FQ1 NQ1 l1Q1
      k_lt l1Q1
      (try dsimp only [List.reverse_cons, List.reverse_nil, List.nil_append, List.cons_append] at FQ1)
      generalize hid _ _ = gQ at *
      (try dsimp only)
      (try k_fold))
  k_with "mine_postLC" => (
      (case C => assumption); (case hN => assumption); (case ho => k_dflt k_is); (case hcd => k_dflt k_is); (case hb => exact rfl); (case hl => exact rfl); (case hnd => decide +kernel); (case c2 => exact rfl); (case c3 => exact rfl); (case c4 => exact rfl)
      intro LQ1 h₁Q tkQ1 cellsQ1 FQ1 NQ1 YQ1 l1Q1
      k_lt l1Q1
      k_cells YQ1
      (try simp only [List.cons_append, List.nil_append] at NQ1)
      generalize hid _ _ = gQ at *
      (try dsimp only)
      (try k_fold))
  k_with "mine_room" => (refine At.less (At.push (by assumption) (by k_asm) rfl rfl) (by decide))
  k_with "mine_back" => (intro hQ1 tkQ1 hkQ1; (rename Fr _ _ _ _ => F9Q); (rename News _ _ _ _ => N9Q); (have FQ1 := Fr.after F9Q hkQ1); (have NQ1 := newsKeep N9Q hkQ1); clear hkQ1; (try k_sweep); (try dsimp only))
  k_with "call ref" => (k_here; (with_reducible show wpAny _ _ (call (Value.ref 94) [Value.str _ _]) _ _ _); k_dflt (refine' c_fspath ?C ?_; (case C => walk_at "mine_room"); k_whole); intro tQ1; walk_at "mine_back")
  k_with "call ref" => (k_here; (with_reducible show wpAny _ _ (call (Value.ref 108) [Value.str _ _]) _ _ _); k_dflt (refine' c_get_sep ?C ?_; (case C => walk_at "mine_room"); k_whole); intro tQ1; walk_at "mine_back")
  k_with "call ref" => (k_here; (with_reducible show wpAny _ _ (call (Value.ref 162) [Value.int _ _]) _ _ _); k_dflt (refine' c_ordersZ ?C ?h0 ?h5 ?_; (case C => walk_at "mine_room"); (case h0 => ((try simp only [List.length_cons, List.length_nil] at *); omega)); (case h5 => ((try simp only [List.length_cons, List.length_nil] at *); omega)); k_whole); intro tQ1; (try dsimp only); intro hQ1 tkQ1 hposQ1 hleQ1; revert hQ1 tkQ1; walk_at "mine_back")
  k_with "truthy ref" => (k_here; (with_reducible show wpAny _ _ (truthy (Value.ref _)) _ _ _); (with_unfolding_all refine' wpAny_truthy_list (items := _) ?k1 ?k2 ?_; (case k1 => exact lstAt (by k_asm) (by k_mem)); (case k2 => ((simp only [List.size_toArray, List.length_cons]); omega)); k_whole; (try simp only [List.isEmpty_toArray, List.isEmpty_cons, List.isEmpty_nil, Array.isEmpty_push, Bool.not_false, Bool.not_true])))
  k_with "call builtin:len" => (k_here; (with_reducible show wpAny _ _ (call (Value.builtin "len") [Value.ref _]) _ _ _); (with_unfolding_all refine' len_list (items := _) ?k1 ?k2 ?_; (case k1 => exact lstAt (by k_asm) (by k_mem)); (case k2 => ((simp only [List.size_toArray, List.length_cons]); omega)); k_whole; (try simp only [List.size_toArray, List.length_cons])))
  k_with "call builtin:list.pop" => (k_here; k_dflt (refine' popStr ?F ?N ?S ?h0 ?h1 ?z ?U ?_; (case F => k_asm); (case N => k_asm); (case U => k_upd); (case S => first | assumption | exact StrsAre.cons _ _ (by assumption)); (case h0 => exact row_i0 (by assumption)); (case h1 => exact row_i1 (by assumption) (by assumption)); (case z => ((simp only [List.length_cons]); omega))); intro hQ1 tQ1 FQ1 NQ1 hSQ1; (try dsimp only [List.nil_append, List.cons_append] at NQ1); (try k_sweep))
  k_with "exec While" => refine Hold.out ?_
  have C' := At.pushL C F N hf hk
  have hN : ∀ p ∈ [(l, listOf vs.toArray c)], s.heap.get? p.1 = some p.2 := fun p hp => (N p hp).1
  have hK := fun h' => @hid_keeps s.heap h' _ hN
  have hNo := fun b => @hid_none s.heap [(l, listOf vs.toArray c)] b
  clear C F N hf hk
  walk_at "mine_preL"
  refine' enterL (binds := [(Str.ofString "number", .int n t), (Str.ofString "names", .ref l)]) ?C ?hN ?ho ?hcd ?hb ?hl ?_ ?c2 ?c3 ?c4 ?c5
  walk_at "mine_postL"
  k_steps
  refine Hold.into ?_
  rename_i D e1 _ l1a _ _ _ l' _ l1 _ F' N'
  refine ksw_while (fun c' : RSt => [(l', listOf c'.rs.toArray c'.e2), (D, listOf c'.vs.toArray c'.e1), (l, listOf vs.toArray c)]) (fun c => [(Str.ofString "told", .int c.told c.tk)]) (fun c => StrsAre c.vs c.xs ∧ StrsAre c.rs c.ys) [Str.ofString "weight"]
    (fun c => 0 ≤ c.told ∧ c.told < fac c.xs.length ∧ c.xs.length + c.ys.length ≤ 5 ∧ c.ys ++ rowN c.xs.length c.told.toNat c.xs = rowN xs.length n.toNat xs) (fun c => c.xs.length) ⟨vs, xs, n, _, [], [], _, _⟩ F' N' ⟨hS, .nil⟩ (by intro p hp; rw [List.mem_singleton.mp hp]; exact rfl) ⟨hn0, hn1, by simpa using hx, rfl⟩ ?_
  clear F' N'
  rintro ⟨vs1, xs1, told, tk1, rs, ys, f1, f2⟩ u hh tk2 ⟨hS1, hR1⟩ ⟨h0, h1, h2, h3⟩ F2 N2
  dsimp only at hS1 hR1 h0 h1 h2 h3 F2 N2 ⊢
  simp only [kstB] at F2
  have hrl := hR1.length
  cases hS1 with
  | nil =>
    k_steps
    (rename Fr _ _ _ _ => F9); (rename News _ _ _ _ => N9)
    refine hret l' rs f2 _ _ (hK _ F9.keep (fun p hp => (N9 p (by rw [List.mem_singleton.mp hp]; k_mem)).1)) (fun p hp => ?_) (by rw [← h3]; simpa [rowN] using hR1)
    rw [List.mem_singleton.mp hp]
    exact ⟨(N9 _ (by k_mem)).1, hNo _ (N9 _ (by k_mem)).2.2 (fun q hq => by rw [List.mem_singleton.mp hq]; exact Nat.ne_of_lt l1.2)⟩
  | @cons x tx vs1 xs1 hS2 =>
    have hvl := hS2.length
    simp only [List.length_cons] at h1 h2 h3
    have h4 : told < 121 := by have := @fac_le5 (xs1.length + 1) (by omega); omega
    k_steps
    (rename Fr _ _ _ _ => F9); (rename News _ _ _ _ => N9); (rename StrsAre (List.eraseIdx _ _) _ => hS9)
    simp only [List.push_toArray] at N9
    have hT := @row_turn told x vs1.length xs1 ys _ hvl h0 h1 h2 h3
    refine ksw_end (c := (⟨_, _, _, _, _, _, _, _⟩ : RSt)) ⟨_, _, _, _, _, _, _, _⟩ F9 N9 (fun p hp => hp) ⟨hS9, hR1.append' (.cons _ _ .nil)⟩ (by intro p hp; rw [List.mem_singleton.mp hp]; exact rfl) ?_ hT.1 hT.2
    ksw_same
end Mine
end
section
open PySem PySem.W PyProof.Rows PySem.Calls
set_option Elab.async false
set_option maxRecDepth 100000
set_option maxHeartbeats 4000000
namespace Mine
theorem itemAt {prog : Program} {w : World} {A : Around} {E : Value → Shared → Prop} {s : Shared} {value slice : PySem.Expr} {l : Addr} {vs : List Value} {k : Int} {u : Tok} {v : Value} {Q : Value → Shared → Prop}
    (hl : s.heap.IsList l vs.toArray) (h0 : 0 ≤ k) (hhi : k < 2 ^ 63) (hx : vs[k.toNat]? = some v) (h : Q v s)
    (hs : subscripted slice false (.ref l) (.int k u) = operate [.ref l, .int k u] (getItem (.ref l) (.int k u)) := by with_unfolding_all rfl) :
    wpAny (model prog w) A (subscriptTail value slice (.ref l) (.int k u)) Q E s :=
  tail_any hl.typeIs slot_list_getitem.lookup (wpAny_getItem_list hl h0 hhi (by simpa using hx) h) hs
theorem While_no {prog : Program} {w : World} {A : Around} {E : Value → Shared → Prop} {Q : Flow → Shared → Prop} {s : Shared} {env : Env} {h₀ : Heap} {L : Addr} {test : Expr} {body : List Stmt} {pos : Pos} {m : Str → Option Value} {news : List (Addr × Obj)}
    (F : Fr h₀ L s.heap m) (N : News h₀ L s.heap news)
    (turn : ∀ h₁ tk₁, Fr h₀ L h₁ m → News h₀ L h₁ news → wpAny (model prog w) A (isTrue test env (eval test env)) (fun b s₂ => if b = true then False else Q .next s₂) E { s with heap := h₁, toks := tk₁ })
    (hE : PassesOwn (model prog w) A env E) : wpAny (model prog w) A (exec (.While test body [] pos) env) Q E s := by
  refine While_inv2 (fun n m₁ nx => m₁ = m ∧ nx = news) (n₀ := 0) F N ⟨rfl, rfl⟩ ?_ hE
  rintro n m₁ nx h tk F₁ N₁ ⟨rfl, rfl⟩
  refine wpAny_mono (turn h tk F₁ N₁) (fun b s₂ p => ?_) fun _ _ x => x
  cases b with
  | false => simpa using p
  | true => simp at p
def ltS (a b : Str) : Prop := a.cps.toList < b.cps.toList
def Inc (xs : List Str) : Prop := xs.Pairwise ltS
structure SSt where
  i : Int
  j : Int
  ti : Tok
  tj : Tok
  ms : List Value
  es : List Str
  e1 : Nat
def SInv (xs ys : List Str) (c : SSt) : Prop :=
  0 ≤ c.i ∧ 0 ≤ c.j ∧ c.i < xs.length ∧ c.j ≤ ys.length ∧ (∀ y ∈ ys.drop c.j.toNat, y ∈ xs.drop c.i.toNat) ∧ c.es.length ≤ c.i ∧ c.es ++ (xs.drop c.i.toNat).filter (fun x => decide (x ∉ ys.drop c.j.toNat)) = xs.filter (fun x => decide (x ∉ ys))
theorem pickFrom {vs : List Value} {x : Int} (h : 0 ≤ x) : slicePick vs.toArray (some x) none none = (vs.drop x.toNat).toArray := by
  have e : sliceBounds (some x) none none vs.toArray.size = (((min x.toNat vs.toArray.size : Nat) : Int), ((vs.toArray.size : Nat) : Int), 1) := by
    simp only [sliceBounds, Option.getD_none, show (1 : Int) > 0 by decide, if_true, if_neg (show ¬ (x < 0) by omega)]
    congr 1
    omega
  rw [kmk_pick_nat _ e]
  congr 1
  show (vs.drop (min x.toNat vs.toArray.size)).take (vs.toArray.size - min x.toNat vs.toArray.size) = vs.drop x.toNat
  rw [List.size_toArray, kmk_drop_min, List.take_of_length_le (by rw [List.length_drop]; omega)]
section
variable {prog : Program} {w : World} {A : Around} {E : Value → Shared → Prop} {s : Shared} {h₀ : Heap} {L l D b : Addr} {m : Str → Option Value} {news news' : List (Addr × Obj)} {value slice : PySem.Expr} {vs zs ms : List Value} {x : Int} {t : Tok} {n n2 : Nat} {Q : Value → Shared → Prop}
theorem sliceFrom (F : Fr h₀ L s.heap m) (N : News h₀ L s.heap news) (hl : (l, listOf vs.toArray n) ∈ news) (h0 : 0 ≤ x) (hz : vs.drop x.toNat = zs)
    (h : ∀ D h', Fr h₀ L h' m → News h₀ L h' ((D, listOf zs.toArray 0) :: news) → (∀ p ∈ news, p.1 < D) → Q (.ref D) { s with heap := h' })
    (hs : subscripted slice false (.ref l) (.ref s.heap.objs.size) = operate [.ref s.heap.objs.size, .ref l] (getItem (.ref l) (.ref s.heap.objs.size))) (ht : ∀ r, letTemporaryGo value (.ref l) r = pure ()) (hsz : vs.length ≤ 100) :
    wpAny (model prog w) A (subscriptTail value slice (.ref l) (.ref s.heap.objs.size)) Q E { s with heap := s.heap.push { cls := .type "slice", data := .fields #[.int x t, .none, .none] } } := by
  refine kmk_slice F N (lstAt N hl) (by constructor) (by constructor) (fun D h' F' N' l1 => h D h' F' ?_ l1) hs ht (by rw [sizeLine_eq, List.size_toArray]; omega)
  rw [pickFrom h0, hz] at N'
  exact N'
theorem notLong {a b : Nat} (h : a + b ≤ 100) {c : Bool} : ¬ (c && Builtin.List.listTooLong (a + b)) = true := by
  have : Builtin.List.listTooLong (a + b) = false := by unfold Builtin.List.listTooLong; simp [sizeLine_eq]; omega
  rw [this]; simp
theorem extA {Q : Value → Shared → Prop} (F : Fr h₀ L s.heap m) (N : News h₀ L s.heap news) (hb : (b, listOf zs.toArray n2) ∈ news) (U : Upd D (listOf ms.toArray n) (listOf (ms ++ zs).toArray (n + 1)) news news') (hne : 0 < zs.length) (hsz : ms.length + zs.length ≤ 100)
    (h : ∀ h', Fr h₀ L h' m → News h₀ L h' news' → Q .none { s with heap := h' }) : wpAny (model prog w) A (call (.builtin "list.extend") [.ref D, .ref b]) Q E s :=
  kl_extend F N hb rfl (by show zs.length ≠ 0; omega) U (by rw [List.size_toArray, List.size_toArray]; exact notLong hsz) (by rw [sizeLine_eq]; show ms.length ≤ _; omega) (by rw [sizeLine_eq, List.size_toArray, List.size_toArray]; omega) h
theorem ext0 {Q : Value → Shared → Prop} (F : Fr h₀ L s.heap m) (N : News h₀ L s.heap news) (hb : (b, listOf ([] : List Value).toArray n2) ∈ news) (U : Upd D (listOf ms.toArray n) (listOf ms.toArray n) news news') (hsz : ms.length ≤ 100)
    (h : ∀ h', Fr h₀ L h' m → News h₀ L h' news' → Q .none { s with heap := h' }) : wpAny (model prog w) A (call (.builtin "list.extend") [.ref D, .ref b]) Q E s :=
  kxn_extend F N hb rfl U (by rw [List.size_toArray, List.size_toArray]; exact notLong (by simpa using hsz)) (by rw [sizeLine_eq]; show ms.length ≤ _; omega) (by rw [sizeLine_eq, List.size_toArray, List.size_toArray]; simp; omega) h
end
theorem same1 {p : Addr × Obj} {ps frs : List (Addr × Obj)} (h : TI.SameUp (p :: ps) frs) : ∃ sl r, frs = (p.1, { p.2 with slots := sl }) :: r ∧ TI.SameUp ps r := by
  cases frs with
  | nil => exact False.elim h
  | cons q r =>
    obtain ⟨e1, ⟨sl, e2⟩, h3⟩ := h
    exact ⟨sl, r, by rw [← e1, ← e2], h3⟩
theorem same0 {frs : List (Addr × Obj)} (h : TI.SameUp [] frs) : frs = [] := by
  cases frs with
  | nil => rfl
  | cons q r => exact False.elim h
theorem same2 {p1 p0 : Addr × Obj} {frs : List (Addr × Obj)} (h : TI.SameUp [p1, p0] frs) : ∃ sl1 sl0, frs = [(p1.1, { p1.2 with slots := sl1 }), (p0.1, { p0.2 with slots := sl0 })] := by
  obtain ⟨s1, r, rfl, h1⟩ := same1 h
  obtain ⟨s0, r0, rfl, h0⟩ := same1 h1
  exact ⟨s1, s0, by rw [same0 h0]⟩
inductive PStop : Prop | mk
theorem dropS {α : Type} {l : List α} {i : Nat} {e : α} {r : List α} (h : l.drop i = e :: r) : l.drop (i + 1) = r ∧ i < l.length := by
  constructor
  · have := congrArg List.tail h
    simpa using this
  · have := congrArg List.length h
    simp at this; omega
theorem ltS_ne {a b : Str} (h : ltS a b) : a ≠ b := by
  rintro rfl
  exact absurd h (by unfold ltS; exact List.lt_irrefl _)
theorem inc_drop {xs : List Str} (h : Inc xs) {i : Nat} {e : Str} {r : List Str} (hd : xs.drop i = e :: r) : ∀ y ∈ r, ltS e y := by
  have h1 : Inc (xs.drop i) := List.Pairwise.drop h
  rw [hd] at h1
  exact (List.pairwise_cons.mp h1).1
theorem inv_less {xs ys : List Str} {i j : Int} {ti tj : Tok} {ms : List Value} {es : List Str} {f1 : Nat} {e e2 a : Str} {xr yr : List Str} (hys : Inc ys)
    (h : SInv xs ys ⟨i, j, ti, tj, ms, es, f1⟩) (hx : xs.drop i.toNat = e :: e2 :: xr) (hy : ys.drop j.toNat = a :: yr) (hlt : ltS e a) (tj' : Tok) (ms' : List Value) (f' : Nat) (ti' : Tok) :
    SInv xs ys ⟨i + 1, j, ti', tj', ms', es ++ [e], f'⟩ := by
  obtain ⟨h1, h2, h3, h4, h5, h6, h7⟩ := h
  dsimp only at *
  have hi : (i + 1).toNat = i.toNat + 1 := by omega
  have hx' := (dropS hx).1
  have hl := (dropS hx').2
  have hne : ∀ y ∈ ys.drop j.toNat, y ≠ e := by
    rw [hy]
    intro y hy2 e0
    subst e0
    rcases List.mem_cons.mp hy2 with rfl | hy2
    · exact ltS_ne hlt rfl
    · have := inc_drop hys hy _ hy2
      exact absurd (List.lt_trans hlt this) (List.lt_irrefl _)
  refine ⟨by dsimp only; omega, h2, by dsimp only; omega, h4, ?_, by simp; omega, ?_⟩
  · dsimp only
    intro y hm
    have := h5 y hm
    rw [hi, hx']
    rw [hx] at this
    rcases List.mem_cons.mp this with e1 | h8
    · exact absurd e1 (hne y hm)
    · exact h8
  · dsimp only
    have h9 : (fun x => decide (x ∉ ys.drop j.toNat)) e = true := by simp only [decide_eq_true_eq]; exact fun hm => hne _ hm rfl
    rw [← h7, hi, hx', hx, List.filter_cons_of_pos (a := e) h9, List.append_assoc]
    rfl
theorem inv_same {xs ys : List Str} {i j : Int} {ti tj : Tok} {ms : List Value} {es : List Str} {f1 : Nat} {e : Str} {xr yr : List Str} (hxs : Inc xs) (hys : Inc ys)
    (h : SInv xs ys ⟨i, j, ti, tj, ms, es, f1⟩) (hx : xs.drop i.toNat = e :: xr) (hy : ys.drop j.toNat = e :: yr) :
    (∀ y ∈ yr, y ∈ xr) ∧ es ++ xr.filter (fun x => decide (x ∉ yr)) = xs.filter (fun x => decide (x ∉ ys)) := by
  obtain ⟨h1, h2, h3, h4, h5, h6, h7⟩ := h
  dsimp only at *
  have hlx := inc_drop hxs hx
  have hly := inc_drop hys hy
  rw [hx, hy] at h5 h7
  constructor
  · intro y hm
    rcases List.mem_cons.mp (h5 y (List.mem_cons_of_mem _ hm)) with e1 | h8
    · exact absurd e1.symm (ltS_ne (hly y hm))
    · exact h8
  · rw [← h7, List.filter_cons_of_neg (by simp)]
    congr 1
    refine List.filter_congr fun x hm => ?_
    have : x ≠ e := fun e0 => ltS_ne (hlx x hm) e0.symm
    simp [this]
theorem inv_next {xs ys : List Str} {i j : Int} {ti tj : Tok} {ms : List Value} {es : List Str} {f1 : Nat} {e e2 : Str} {xr yr : List Str} (hxs : Inc xs) (hys : Inc ys)
    (h : SInv xs ys ⟨i, j, ti, tj, ms, es, f1⟩) (hx : xs.drop i.toNat = e :: e2 :: xr) (hy : ys.drop j.toNat = e :: yr) (tj' : Tok) (ms' : List Value) (f' : Nat) (ti' : Tok) :
    SInv xs ys ⟨i + 1, j + 1, ti', tj', ms', es, f'⟩ := by
  have hs := inv_same hxs hys h hx hy
  obtain ⟨h1, h2, h3, h4, h5, h6, h7⟩ := h
  dsimp only at *
  have hi : (i + 1).toNat = i.toNat + 1 := by omega
  have hj : (j + 1).toNat = j.toNat + 1 := by omega
  have hx' := (dropS hx).1
  have hl := (dropS hx').2
  have hy' := (dropS hy).1
  have hl2 := (dropS hy).2
  refine ⟨by dsimp only; omega, by dsimp only; omega, by dsimp only; omega, by dsimp only; omega, ?_, by dsimp only; omega, ?_⟩
  · dsimp only; rw [hi, hj, hx', hy']; exact hs.1
  · dsimp only; rw [hi, hj, hx', hy']; exact hs.2
theorem strsDrop {vs : List Value} {xs : List Str} (h : StrsAre vs xs) : ∀ n, StrsAre (vs.drop n) (xs.drop n) := by
  intro n
  induction n generalizing vs xs with
  | zero => exact h
  | succ n ih =>
    cases h with
    | nil => exact .nil
    | cons s t h => exact ih h
theorem strsCons {vs : List Value} {e : Str} {r : List Str} (h : StrsAre vs (e :: r)) : ∃ t vr, vs = .str e t :: vr ∧ StrsAre vr r := by
  cases h with
  | cons s t h => exact ⟨t, _, rfl, h⟩
theorem strsCons' {vs : List Value} {xs : List Str} {i : Nat} {e : Str} {r : List Str} (h : StrsAre vs xs) (hd : xs.drop i = e :: r) : ∃ t, vs[i]? = some (.str e t) ∧ vs.drop i = .str e t :: vs.drop (i + 1) ∧ StrsAre (vs.drop (i + 1)) r := by
  have h1 := strsDrop h i
  rw [hd] at h1
  obtain ⟨t, vr, e1, h2⟩ := strsCons h1
  have e2 := (dropS e1).1
  refine ⟨t, ?_, by rw [e1, e2], by rw [e2]; exact h2⟩
  rw [← List.head?_drop, e1]; rfl
end Mine
end
section
open PySem PySem.W PyProof.Rows PySem.Calls
set_option Elab.async false
set_option maxRecDepth 100000
set_option maxHeartbeats 4000000
namespace Mine
/-- an exception record whose context is empty -/
def Lone (h : Heap) (e : Addr) : Prop := ∃ ob vs, h.get? e = some ob ∧ ob.data = .fields vs ∧ vs[2]? = some .none
def Lone1 (ob : Obj) : Prop := ∃ vs, ob.data = .fields vs ∧ vs[2]? = some .none
structure NewCtx (h h' : Heap) (e : Addr) (cls : String) : Prop where
  keeps : ∀ b o, h.get? b = some o → h'.get? b = some o
  new : h.get? e = none
  there : ∃ ob vs t, h'.get? e = some ob ∧ ob.cls = .type cls ∧ ob.data = .fields vs ∧ vs[0]? = some t ∧ vs[1]? = some .none
theorem newCtx_of {h h' : Heap} {e : Addr} {cls : String} (x : Heap.NewExc h h' e cls) : NewCtx h h' e cls ∧ Lone h' e := by
  obtain ⟨ob, t, he, hc, hd⟩ := x.there
  exact ⟨⟨x.keeps, x.new, ob, _, t, he, hc, hd, rfl, rfl⟩, ob, _, he, hd, rfl⟩
theorem ent_unchain : entryFor table "proto.unchain" = some Builtin.«proto.unchain» := entryFor_of_fast (by kernel_rfl)
section
variable {prog : Program} {w : World} {A : Around} {E : Value → Shared → Prop} {s : Shared}
theorem unchain_none {v sl : Value} {e1 : Addr} {Q : PySem.Fin → Shared → Prop} (hl : Lone s.heap e1) (hq : Q (.done (.ret .none)) s) :
    wpAny (model prog w) A (Builtin.«proto.unchain» ⟨[v, .ref e1, sl, .bool false], []⟩) Q E s := by
  obtain ⟨ob, vs, he, hd, h2⟩ := hl
  unfold Builtin.«proto.unchain»
  show wpAny _ _ (field (.ref e1) 2 >>= _) _ _ _
  refine wpAny_bind (wpAny_field he hd h2 ?_)
  exact wpAny_pure hq
theorem raiseMarked {α : Type} {cls msg : String} {Q : α → Shared → Prop} {e1 : Addr} (hp : PlainExc cls) (hh : A.handled = some (.ref e1)) (hl : Lone s.heap e1)
    (h : ∀ h' tk e, NewCtx s.heap h' e cls → E (.ref e) { s with heap := h', toks := tk }) :
    wpAny (model prog w) A (raiseErrorWords cls msg : Sem α) Q E s := by
  obtain ⟨ob, vs, he, hd, h2⟩ := hl
  unfold raiseErrorWords
  refine wpAny_bind (wpAny_mkText (wpAny_bind ?_))
  unfold newExc newTuple
  refine wpAny_bind (wpAny_newObj_type ?_)
  refine wpAny_bind (m := firstArgMember _ _) (wpAny_of_eq (a := Value.none) (by simp only [firstArgMember, hp.first]; rfl) ?_)
  rw [hp.own]
  refine wpAny_newObj_type ?_
  unfold raiseNew
  refine wpAny_bind (wpAny_handled ?_)
  rw [hh]
  have hlt := Heap.lt_size he
  generalize hN : (⟨s.heap.push { cls := .type "tuple", data := .seq [Value.str (Str.ofString msg) s.toks].toArray }, s.gens, s.drawn, s.toks + 1, s.os⟩ : Shared) = S1
  have hn : S1.heap.objs.size = s.heap.objs.size + 1 := by rw [← hN]; exact Heap.size_push _ _
  have hk1 : ∀ b o, s.heap.get? b = some o → S1.heap.get? b = some o := by rw [← hN]; intro b o hb; exact Heap.get?_push_of_some _ hb
  have hne : e1 ≠ S1.heap.objs.size := Nat.ne_of_lt (by rw [hn]; exact Nat.lt_succ_of_lt hlt)
  have hcond : (Value.ref e1 != Value.ref S1.heap.objs.size) = true := by simp [hne]
  have hnew := Heap.get?_push_size (S1.heap) (o := { cls := .type cls, dict := none, data := .fields (#[.ref s.heap.objs.size, .none, .none, .none, .bool false, .none] ++ #[]) }) rfl
  show wpAny _ _ (if _ then _ else _) _ _ _
  rw [if_pos hcond]
  refine wpAny_bind (wpAny_holding (wpAny_runValue (codeAny_builtin ent_unchain (unchain_none ⟨ob, vs, ?_, hd, h2⟩ ?_))))
  · exact Heap.get?_push_of_some _ (hk1 _ _ he)
  refine wpAny_bind ?_
  unfold updateField
  refine wpAny_bind (wpAny_load hnew ?_)
  dsimp only
  rw [if_pos (by simp)]
  refine wpAny_update hnew (wpAny_throw ?_)
  have hs0 : s.gens = S1.gens ∧ s.drawn = S1.drawn ∧ s.os = S1.os := by rw [← hN]; exact ⟨rfl, rfl, rfl⟩
  have hd' := Heap.get?_update_self (Obj.mapFields (·.setIfInBounds 2 (Value.ref e1))) hnew rfl
  have := h _ S1.toks S1.heap.objs.size ⟨fun b o hb => (Heap.get?_update_ne _ _ _ _ (Nat.ne_of_lt (by rw [hn]; exact Nat.lt_succ_of_lt (Heap.lt_size hb)))).trans (Heap.get?_push_of_some _ (hk1 _ _ hb)), Heap.get?_none_of_le (by rw [hn]; exact Nat.le_succ _), _, _, _, hd', rfl, rfl, rfl, rfl⟩
  rw [hs0.1, hs0.2.1, hs0.2.2] at this
  exact this
theorem getOutMarked {l e1 : Addr} {items : Array Value} {k : Int} {t : Tok} {Q : Value → Shared → Prop} (hA : A.handled = some (.ref e1)) (hl : Lone s.heap e1) (hs : s.heap.IsList l items)
    (hout : (items.size : Int) ≤ k) (h0 : 0 ≤ k) (hhi : k < 2 ^ 63)
    (hE : ∀ h' tk e, NewCtx s.heap h' e "IndexError" → E (.ref e) { s with heap := h', toks := tk }) :
    wpAny (model prog w) A (getItem (.ref l) (.int k t)) Q E s := by
  obtain ⟨o, ho, hc, ne, hd⟩ := id hs
  unfold getItem
  try with_reducible refine wpAny_holding ?_
  first | refine wpAny_bind (wpAny_pure ?_) | skip
  refine wpAny_bind (wpAny_sequenceKey hs.typeIs (by decide) ?_)
  refine wpAny_bind (wpAny_callSpecial?_slot (name := Str.ofString "__getitem__") hs.typeIs slot_list_getitem
    (wpAny_call_entry slot_list_getitem hs.typeIs entry_list_getitem ?_ (args_list_getitem _ _)))
  show wpAny _ _ (Builtin.List.listSubscript? (.int k t) >>= _) _ _ s
  refine wpAny_bind (wpAny_listSubscript_int (fitsIndex_both (by omega) hhi) ?_)
  cases k with
  | ofNat j =>
    have hx : items[j]? = none := Array.getElem?_eq_none (by have : (items.size : Int) ≤ (j : Int) := hout; omega)
    show wpAny _ _ ((seqItemAt l j >>= fun r => pure (r.map (j, ·))) >>= _) _ _ s
    refine wpAny_bind (wpAny_bind (wpAny_seqItemAt ho hd (wpAny_pure ?_)))
    rw [hx]
    first
      | exact wpAny_bind (wpAny_rule (raiseMarked plainExc_IndexError hA hl hE))
      | exact wpAny_bind (wpAny_rule (wpAny_bind (raiseMarked plainExc_IndexError hA hl hE)))
      | exact wpAny_bind (wpAny_bind (wpAny_rule (raiseMarked plainExc_IndexError hA hl hE)))
      | exact wpAny_rule (raiseMarked plainExc_IndexError hA hl hE)
  | negSucc j => exact absurd h0 (by have := Int.negSucc_lt_zero j; omega)
theorem outMarked {l e1 : Addr} {items : Array Value} {k : Int} {t : Tok} {value slice : PySem.Expr} {Q : Value → Shared → Prop} (hA : A.handled = some (.ref e1)) (hl : Lone s.heap e1) (hs : s.heap.IsList l items)
    (hout : (items.size : Int) ≤ k) (h0 : 0 ≤ k) (hhi : k < 2 ^ 63)
    (hE : ∀ h' tk e, NewCtx s.heap h' e "IndexError" → E (.ref e) { s with heap := h', toks := tk })
    (hq : subscripted slice false (.ref l) (.int k t) = operate [.ref l, .int k t] (getItem (.ref l) (.int k t)) := by with_unfolding_all rfl) :
    wpAny (model prog w) A (subscriptTail value slice (.ref l) (.int k t)) Q E s :=
  tail_any hs.typeIs slot_list_getitem.lookup (getOutMarked hA hl hs hout h0 hhi hE) hq
theorem entry2 {base : Heap} {env : Env} {outer : List Env} {L e : Addr} {oe : Obj} {vs : Array Value} {head a0 : Value} {hadNext : Bool} {Q : Unit → Shared → Prop}
    (hfr : A.frames = some (env :: outer)) (hl : s.heap.FunFrames base (env :: outer)) (hf : env.frame = some L)
    (he : s.heap.get? e = some oe) (hkb : base.StaysIn s.heap) (hen : base.get? e = none) (hd : oe.data = .fields vs) (hsz : 1 < vs.size) (h0 : vs[0]? = some a0)
    (h : ∀ h', Heap.NotedW base (env :: outer) e oe.cls a0 (rawInt L) s.heap h' → (Lone s.heap e → Lone h' e) → Q () { s with heap := h' }) :
    wpAny (model prog w) A (do let a ← frameOf env; let pl ← entryPlaceOf L hadNext; let b ← EntryCells.newEntry head a .none (rawInt L) .none pl; setField (.ref e) 1 b) Q E s := by
  have hene : e ∉ (env :: outer).filterMap (·.frame) := fun hm => by
    obtain ⟨_, o, ho, hnf⟩ := hl.mem hm
    rw [he] at ho; injection ho with ho; subst ho; exact hnf vs hd
  refine wpAny_bind (wpAny_frameOf_fun hfr hl hf fun h₁ hs₁ => ?_)
  refine wpAny_bind (wpAny_entryPlaceOf fun pl hpl => ?_)
  unfold EntryCells.newEntry newFields
  refine wpAny_bind (wpAny_newObj_type ?_ (hpl.sizeOk5 _ _ _ _ _))
  have he₁ : h₁.get? e = some oe := (hs₁.2.1 e hene).trans he
  have kb₁ : base.StaysIn h₁ := fun b o hbo => (hs₁.2.1 b fun hm => by rw [(hl.mem hm).1] at hbo; cases hbo).trans (hkb b o hbo)
  generalize hrec : ([head, .ref L, .none, rawInt L, .none] ++ (if pl.isEmpty then List.replicate 6 Value.none else pl)).toArray = rec
  have hr3 : rec[3]? = some (rawInt L) := by rw [← hrec]; first | (simp; done) | (rcases hpl with rfl | ⟨_, _, _, _, _, _, _, rfl⟩ <;> simp)
  have he₂ := Heap.get?_push_of_some (h := h₁) { cls := .type "traceback", dict := none, data := .fields rec } he₁
  refine wpAny_setField he₂ hd hsz ?_
  have hTe : h₁.objs.size ≠ e := Nat.ne_of_gt (Heap.lt_size he₁)
  have hd₃ := Obj.data_mapFields hd (·.setIfInBounds 1 (Value.ref h₁.objs.size))
  have he₃ := Heap.get?_update_self (Obj.mapFields (·.setIfInBounds 1 (Value.ref h₁.objs.size))) he₂ (Obj.isFreed_of_fields hd₃)
  have hT₃ := (Heap.get?_update_other (h₁.push { cls := .type "traceback", dict := none, data := .fields rec })
    (Obj.mapFields (·.setIfInBounds 1 (Value.ref h₁.objs.size))) (Ne.symm hTe)).trans (Heap.get?_push_size h₁ rfl)
  have keep : ∀ b o, b ≠ e → h₁.get? b = some o →
      ((h₁.push { cls := .type "traceback", dict := none, data := .fields rec }).update e (Obj.mapFields (·.setIfInBounds 1 (Value.ref h₁.objs.size)))).get? b = some o :=
    fun b o hbe hb => by
      rw [Heap.get?_update_other _ _ (Ne.symm hbe)]
      exact Heap.get?_push_of_some _ hb
  have noRecord : ∀ b o, s.heap.get? b = some o → (∀ vs, o.data ≠ .fields vs) → b ≠ e := fun b o hb hnf q => by
    rw [q, he] at hb; injection hb with hb; subst hb; exact hnf vs hd
  refine h _ ⟨fun b o hbo => keep b o (fun q => by rw [q, hen] at hbo; cases hbo) (kb₁ b o hbo), hl.of_keeps fun b o hb hnf => ?_, ?_, fun b o hb hnf => ?_⟩ ?_
  · obtain ⟨sl, hs⟩ := hs₁.2.2 b o hb
    exact ⟨_, keep b _ (noRecord b o hb hnf) hs, rfl⟩
  · exact ⟨_, _, h₁.objs.size, _, _, he₃, ⟨Obj.cls_mapFields _ _, by rw [Array.getElem?_setIfInBounds_ne (by decide)]; exact h0⟩, hd₃, by simp [hsz], kb₁.fresh, hTe, hT₃, rfl, hr3⟩
  · obtain ⟨sl, hs⟩ := hs₁.2.2 b o hb
    exact ⟨sl, keep b _ (noRecord b o hb hnf) hs⟩
  · rintro ⟨o2, v2, g1, g2, g3⟩
    rw [he] at g1
    obtain rfl := Option.some.inj g1
    rw [hd] at g2
    injection g2 with g2
    subst g2
    exact ⟨_, _, he₃, hd₃, by rw [Array.getElem?_setIfInBounds_ne (by decide)]; exact g3⟩
end
section
variable {prog : Program} {w : World} {A₀ : Around} {E : Value → Shared → Prop} {s' : Shared} {hb h : Heap} {L a e : Addr} {m : Str → Option Value} {name : Str} {scope : Scope} {cd : Value} {Q : Unit → Shared → Prop} {X : String} {l : List Env} {frs new : List (Addr × Obj)}
theorem noted2 (hfr : A₀.frames = some l) (Fs : TI.Frs l frs) (hx : NewCtx h s'.heap e X) (F : Fr hb L h m) (N : News hb L h (new ++ frs)) (hnd : new.all TI.notDict = true)
    (k : ∀ h' frs', TI.SameUp frs frs' → TI.Frs l frs' → TT.HeldN hb L h' m e X (new ++ frs') → (Lone s'.heap e → Lone h' e) → Q () { s' with heap := h' }) (hk : scope.kind = .function := by rfl) :
    wpAny (model prog w) (A₀.deeper (envOf name scope L a cd)) (noteFrame (.ref e) (envOf name scope L a cd)) Q E s' := by
  obtain ⟨ob, vs, tp, he, hcls, hd, h0, h1⟩ := hx.there
  obtain ⟨hff, hNs, frs₁, SU, ht⟩ := TI.frames_at (name := name) (a := a) (cd := cd) (h' := s'.heap) (base := TI.gone h (L :: frs.map (·.1))) hk Fs F N TI.tail_sub (fun b o hb' => ⟨o.slots, hx.keeps b o hb'⟩) fun b hm => TI.gone_none hm
  unfold noteFrame
  simp only [show (envOf name scope L a cd).frame = some L from rfl]
  refine wpAny_bind (wpAny_field he hd (x := .none) h1 ?_)
  rw [if_neg (by decide)]
  have hsz : 1 < vs.size := (Array.getElem?_eq_some_iff.mp h1).1
  refine entry2 (a0 := tp) (Around.frames_deeper hfr) hff rfl he (fun b o eb => hx.keeps b o (TI.gone_some eb).2) (TT.none_of (fun b o eb => (TI.gone_some eb).2) hx.new) hd hsz h0 fun h' hN hC => ?_
  obtain ⟨frs₂, SU₂, Fs₂, H⟩ := TI.held_of_noted (X := X) Fs F N hnd hNs SU ht hx.new (by rw [← hcls]; exact hN)
  exact k h' frs₂ SU₂ Fs₂ H hC
theorem noteAgain {A : Around} {news : List (Addr × Obj)} {env : Env} (hf : env.frame = some L) (H : TT.HeldN hb L s'.heap m e X news) (k : Q () s') : wpAny (model prog w) A (noteFrame (.ref e) env) Q E s' := by
  obtain ⟨ob, vs, tb, otb, tvs, he, hcls, hd, h1, htb, htd, h3, _⟩ := H.held.there
  exact wpAny_noteFrame_inFlight hf he hd h1 htb htd h3 k
theorem land2 {A : Around} {fl : Value} {news : List (Addr × Obj)} (H : TT.HeldNA hb L s'.heap m e X news fl) (hC : Lone s'.heap e) (k : ∀ h' ob, Fr hb L h' m → News hb L h' ((e, ob) :: news) → Lone1 ob → Q () { s' with heap := h' }) :
    wpAny (model prog w) A (setFlight (.ref e) none) Q E s' := by
  obtain ⟨⟨F, ⟨ob, vs, tb, otb, tvs, he, hcls, hd, h1, htb, htd, h3, htbL, htbe, htb0⟩, hfr⟩, N, hap⟩ := H
  have hsz : 3 < tvs.size := (Array.getElem?_eq_some_iff.mp h3).1
  obtain ⟨oL, esL, epL, hL, hLd, hLk, hLf⟩ := F.ns
  have he' := (Heap.get?_update_ne s'.heap _ _ (Obj.mapFields (·.setIfInBounds 3 Value.none)) htbe.symm).trans he
  refine wpAny_setFlight_none he hd h1 htb htd hsz (k _ ob ⟨⟨oL, esL, epL, (Heap.get?_update_ne _ _ _ _ htbL.symm).trans hL, hLd, hLk, hLf⟩, fun b o hb => ?_, F.above⟩ (fun p hp => ?_) ?_)
  · exact (Heap.get?_update_ne _ _ _ _ (fun q => by rw [q, htb0] at hb; cases hb)).trans (F.keep b o hb)
  · rcases List.mem_cons.mp hp with rfl | hp
    · refine ⟨he', ?_, hfr⟩
      intro q
      have q' : e = L := q
      rw [q', hL] at he
      obtain rfl := Option.some.inj he
      rw [hLd] at hd
      cases hd
    · exact ⟨(Heap.get?_update_ne _ _ _ _ (hap ob vs tb he hd h1 p hp)).trans (N p hp).1, (N p hp).2⟩
  · obtain ⟨o2, v2, g1, g2, g3⟩ := hC
    rw [he] at g1
    obtain rfl := Option.some.inj g1
    exact ⟨_, g2, g3⟩
end
theorem loneIn {h₀ h' : Heap} {L e : Addr} {ob : Obj} {news : List (Addr × Obj)} (N : News h₀ L h' news) (hm : (e, ob) ∈ news) (hl : Lone1 ob) : Lone h' e := by
  obtain ⟨vs, h1, h2⟩ := hl
  exact ⟨ob, vs, (N _ hm).1, h1, h2⟩
theorem newsTail {h₀ h : Heap} {L : Addr} {p : Addr × Obj} {news : List (Addr × Obj)} (N : News h₀ L h (p :: news)) : News h₀ L h news := fun q hq => N q (List.mem_cons_of_mem _ hq)
theorem mem7 {α : Type} {a b c d e f g p : α} {r : List α} : p ∈ a :: b :: c :: d :: e :: f :: g :: p :: r := by simp
theorem mem8 {α : Type} {a b c d e f g h p : α} {r : List α} : p ∈ a :: b :: c :: d :: e :: f :: g :: h :: p :: r := by simp
theorem sldEnd {s0 g h' : Heap} {L' l l' L1 L0 D D1 D2 ux mi : Addr} {o1 o0 ol ol' od1 od2 oD om ou : Obj} {sl1 sl0 : Array (Option Value)} {m : Str → Option Value} (F : Fr g L' h' m)
    (N : News g L' h' [(D, oD), (D1, od1), (D2, od2), (ux, ou), (mi, om), (l, ol), (l', ol'), (L1, ⟨o1.cls, o1.dict, o1.data, sl1⟩), (L0, ⟨o0.cls, o0.dict, o0.data, sl0⟩)])
    (hK : ∀ (h' : Heap), Keeps g h' → (∀ (p : Addr × Obj), p ∈ [(l, ol), (l', ol')] → h'.get? p.fst = some p.snd) → (∀ (p : Addr × Obj), p ∈ [(L1, o1), (L0, o0)] → ∃ sl, h'.get? p.fst = some { cls := p.snd.cls, dict := p.snd.dict, data := p.snd.data, slots := sl }) → KeepsF [(L1, o1), (L0, o0)] s0 h')
    (hNo : ∀ (b : Addr), g.get? b = none → (∀ (p : Addr × Obj), p ∈ [(l, ol), (l', ol'), (L1, o1), (L0, o0)] → p.fst ≠ b) → s0.get? b = none)
    (a1 : l < mi ∧ l' < mi ∧ L1 < mi ∧ L0 < mi) (a2 : mi < ux ∧ l < ux ∧ l' < ux ∧ L1 < ux ∧ L0 < ux) (a3 : D1 < D ∧ D2 < D ∧ ux < D ∧ mi < D ∧ l < D ∧ l' < D ∧ L1 < D ∧ L0 < D) :
    KeepsF [(L1, o1), (L0, o0)] s0 h' ∧ NewIn s0 h' [(D, oD), (mi, om), (ux, ou)] := by
  have ne : ∀ {x y : Addr}, x < y → x ≠ y := fun h => Nat.ne_of_lt h
  constructor
  · refine hK _ F.keep (fun p hp => ?_) (fun p hp => ?_)
    · simp only [List.mem_cons, List.not_mem_nil, or_false] at hp
      rcases hp with rfl | rfl
      · exact (N (l, ol) (by simp)).1
      · exact (N (l', ol') (by simp)).1
    · simp only [List.mem_cons, List.not_mem_nil, or_false] at hp
      rcases hp with rfl | rfl
      · have q := (N _ mem7).1; exact ⟨_, q⟩
      · have q := (N _ mem8).1; exact ⟨_, q⟩
  · intro p hp
    simp only [List.mem_cons, List.not_mem_nil, or_false] at hp
    have far : ∀ b, g.get? b = none → l ≠ b → l' ≠ b → L1 ≠ b → L0 ≠ b → s0.get? b = none := fun b hb e1 e2 e3 e4 => hNo b hb (fun q hq => by
      simp only [List.mem_cons, List.not_mem_nil, or_false] at hq
      rcases hq with rfl | rfl | rfl | rfl <;> assumption)
    rcases hp with rfl | rfl | rfl
    · have q := N (D, oD) (by simp)
      exact ⟨q.1, far _ q.2.2 (ne a3.2.2.2.2.1) (ne a3.2.2.2.2.2.1) (ne a3.2.2.2.2.2.2.1) (ne a3.2.2.2.2.2.2.2)⟩
    · have q := N (mi, om) (by simp)
      exact ⟨q.1, far _ q.2.2 (ne a1.1) (ne a1.2.1) (ne a1.2.2.1) (ne a1.2.2.2)⟩
    · have q := N (ux, ou) (by simp)
      exact ⟨q.1, far _ q.2.2 (ne a2.2.1) (ne a2.2.2.1) (ne a2.2.2.2.1) (ne a2.2.2.2.2)⟩
end Mine
end
section
open PySem PySem.W PyProof.Rows PySem.Calls
set_option Elab.async false
set_option maxRecDepth 100000
set_option maxHeartbeats 4000000
namespace Mine
theorem c_sld {w : World} {mean : ExcName → Option Value} {mg mb : Str → Option Value} {dp un : Nat} {gd : Option (List Code)} {base : Heap} {s : Shared} {E Q : Value → Shared → Prop} {env1 env0 : Env} {L1 L0 : Addr} {o1 o0 : Obj} {l l' : Addr} {c c' : Nat} {vs us : List Value} {xs ys : List Str}
    (law : PySem.Challenge.rw_il0057_01 = PySem.Challenge.rw_il0057_01) (XB : (hd0.heap_1 w.params).In base) (TB : Top VW LS mean mg mb base) (hb : base.StaysIn s.heap) (hdp : dp < recursionLimit)
    (Fs : TI.Frs [env1, env0] [(L1, o1), (L0, o0)]) (hN : ∀ p ∈ [(l, listOf vs.toArray c), (l', listOf us.toArray c'), (L1, o1), (L0, o0)], s.heap.get? p.1 = some p.2) (hN0 : ∀ p ∈ [(l, listOf vs.toArray c), (l', listOf us.toArray c'), (L1, o1), (L0, o0)], base.get? p.1 = none)
    (hS : StrsAre vs xs) (hx : xs.length ≤ 5) (hS' : StrsAre us ys) (hy : ys.length ≤ 5) (hxs : Inc xs) (hys : Inc ys) (hsub : ∀ y ∈ ys, y ∈ xs) (hne : 0 < xs.length)
    (hret : ∀ D mi un ms e1 e2 h' tk, KeepsF [(L1, o1), (L0, o0)] s.heap h' → NewIn s.heap h' [(D, { cls := .type "tuple", data := .seq #[.ref mi, .ref un] }), (mi, listOf ms.toArray e1), (un, listOf #[] e2)] → StrsAre ms (xs.filter fun x => decide (x ∉ ys)) → Q (.ref D) { s with heap := h', toks := tk }) :
    wpAny (model Challenge.rw_il0057_01.row.prog w) (ar dp un gd [env1, env0]) (call (.ref 148) [.ref l, .ref l']) Q E s := by
  k_with_none
  k_with "mine_pre" => (
      (have BQ := At.B (by assumption)); (have XQ := At.X (by assumption)); (have TQ := At.T (by assumption)); (have lQ := At.law (by assumption))
      revert XQ lQ; k_fill; intro XQ lQ; clear lQ
      refine wpAny_call ?_)
  k_with "mine_post" => (
      (case C => assumption); (case ho => k_dflt k_is); (case hcd => k_dflt k_is); (case hb => exact rfl); (case hl => exact locs rfl); (case c2 => exact rfl); (case c3 => exact rfl); (case c4 => exact rfl); (case c5 => decide)
      intro LQ1 h₁Q FQ1 NQ1
      (try dsimp only [List.reverse_cons, List.reverse_nil, List.nil_append, List.cons_append] at FQ1)
      (try dsimp only)
      (try k_fold))
  k_with "mine_postC" => (
      (case C => assumption); (case ho => k_dflt k_is); (case hcd => k_dflt k_is); (case hb => exact rfl); (case hl => exact rfl); (case hnd => decide +kernel); (case c2 => exact rfl); (case c3 => exact rfl); (case c4 => exact rfl)
      intro LQ1 h₁Q tkQ1 cellsQ1 FQ1 NQ1 YQ1
      k_cells YQ1
      (try simp only [List.cons_append, List.nil_append] at NQ1)
      (try dsimp only)
      (try k_fold))
  k_with "mine_preL" => (
      (have BQ := At.B (by assumption)); (have XQ := At.X (by assumption)); (have TQ := At.T (by assumption)); (have lQ := At.law (by assumption))
      revert XQ lQ; k_fill; intro XQ lQ; clear lQ
      refine wpAny_call ?_)
  k_with "mine_postL" => (
      (case C => assumption); (case hN => assumption); (case ho => k_dflt k_is); (case hcd => k_dflt k_is); (case hb => exact rfl); (case hl => exact locs rfl); (case c2 => exact rfl); (case c3 => exact rfl); (case c4 => exact rfl); (case c5 => decide)
      intro LQ1 h₁Q FQ1 NQ1 l1Q1
      k_lt l1Q1
      (try dsimp only [List.reverse_cons, List.reverse_nil, List.nil_append, List.cons_append] at FQ1)
      generalize hid _ _ = gQ at *
      (try dsimp only)
      (try k_fold))
  k_with "mine_postLC" => (
      (case C => assumption); (case hN => assumption); (case ho => k_dflt k_is); (case hcd => k_dflt k_is); (case hb => exact rfl); (case hl => exact rfl); (case hnd => decide +kernel); (case c2 => exact rfl); (case c3 => exact rfl); (case c4 => exact rfl)
      intro LQ1 h₁Q tkQ1 cellsQ1 FQ1 NQ1 YQ1 l1Q1
      k_lt l1Q1
      k_cells YQ1
      (try simp only [List.cons_append, List.nil_append] at NQ1)
      generalize hid _ _ = gQ at *
      (try dsimp only)
      (try k_fold))
  k_with "mine_room" => (refine At.less (At.push (by assumption) (by k_asm) rfl rfl) (by decide))
  k_with "mine_back" => (intro hQ1 tkQ1 hkQ1; (rename Fr _ _ _ _ => F9Q); (rename News _ _ _ _ => N9Q); (have FQ1 := Fr.after F9Q hkQ1); (have NQ1 := newsKeep N9Q hkQ1); clear hkQ1; (try k_sweep); (try dsimp only))
  k_with "call ref" => (k_here; (with_reducible show wpAny _ _ (call (Value.ref 94) [Value.str _ _]) _ _ _); k_dflt (refine' c_fspath ?C ?_; (case C => walk_at "mine_room"); k_whole); intro tQ1; walk_at "mine_back")
  k_with "call ref" => (k_here; (with_reducible show wpAny _ _ (call (Value.ref 108) [Value.str _ _]) _ _ _); k_dflt (refine' c_get_sep ?C ?_; (case C => walk_at "mine_room"); k_whole); intro tQ1; walk_at "mine_back")
  k_with "subscriptTail Name Name ref int" => (k_here; (with_reducible show wpAny _ _ (subscriptTail _ _ (Value.ref _) (Value.int _ _)) _ _ _); (with_unfolding_all refine' itemAt ?k1 ?k2 ?k3 ?k4 ?_ ?k6; (case k1 => exact lstAt (by k_asm) (by k_mem)); (case k4 => assumption); (case k2 => omega); (case k3 => omega); (case k6 => with_unfolding_all rfl); k_whole))
  k_with "exec While" => refine Hold.out ?_
  k_with "exec While Compare" => (k_here; (with_reducible rename Fr _ _ _ _ => F9Q); (with_reducible rename News _ _ _ _ => N9Q); refine' While_no F9Q N9Q ?_ ?hE; (case hE => passes_own); clear F9Q N9Q; intro hQ1 tkQ1 FQ1 NQ1)
  k_with "ite" => first | (refine W.ite_pos (decide_eq_true (by assumption)) ?_) | (refine W.ite_neg (by simp only [decide_eq_true_eq]; assumption) ?_)
  k_with "subscriptTail Name Slice ref ref" => (k_here; (with_reducible show wpAny _ _ (subscriptTail _ (Expr.Slice (some _) none none _) (Value.ref _) (Value.ref _)) _ _ _); (with_reducible rename Fr _ _ _ _ => F9Q); (with_reducible rename News _ _ _ _ => N9Q); (with_unfolding_all refine' sliceFrom (s := ⟨_, _, _, _, _⟩) F9Q N9Q ?m ?h0 ?z ?_ ?h1 ?h2 ?h3; (case m => k_mem); (case h0 => omega); (case z => assumption); (case h1 => with_unfolding_all rfl); (case h2 => (intro _; with_unfolding_all rfl)); (case h3 => omega)); clear F9Q N9Q; intro DQ1 hQ1 FQ1 NQ1 l1Q; (try k_lt l1Q))
  k_with "call builtin:list.extend" => (k_here; (with_reducible show wpAny _ _ (call (Value.builtin _) [Value.ref _, Value.ref _]) _ _ _); k_dflt (first
      | (refine' ext0 ?F ?N ?b ?U ?z ?_; (case F => k_asm); (case N => k_asm); (case b => k_mem); (case U => k_upd); (case z => ((try simp only [List.length_nil]); omega)))
      | (refine' extA ?F ?N ?b ?U ?ne ?z ?_; (case F => k_asm); (case N => k_asm); (case b => k_mem); (case U => k_upd); (case ne => ((try simp only [List.length_cons]); omega)); (case z => ((try simp only [List.length_cons]); omega)))); intro hQ1 FQ1 NQ1; (try k_sweep))
  k_with "noteFrame ref" => (k_here; (with_reducible rename TI.Frs _ _ => tiFsQ); (with_reducible rename Heap.NewExc _ _ _ _ => tiXQ1); (with_reducible rename Fr _ _ _ _ => F9Q); (with_reducible rename News _ _ _ _ => N9Q); k_dflt (refine' TI.noted_newT (new := [_, _, _, _]) ?fr tiFsQ tiXQ1 F9Q ?N ?nd ?_ ; (case fr => exact rfl); (case N => exact N9Q); (case nd => exact rfl)); clear tiXQ1 tiFsQ; intro hQ1 frsQ1 tiSUQ1 tiFsQ1 tiHQ1; (obtain ⟨sl1Q1, sl0Q1, eeQ1⟩ := same2 tiSUQ1; subst eeQ1); clear tiSUQ1; (try simp only [List.nil_append, List.cons_append] at tiHQ1); have tiHHQ1 := TT.HeldNA.held tiHQ1)
  k_with "noteFrame ref" => (k_here; (with_reducible rename TI.Frs _ _ => tiFsQ); (with_reducible rename NewCtx _ _ _ _ => tiXQ1); (with_reducible rename Fr _ _ _ _ => F9Q); (with_reducible rename News _ _ _ _ => N9Q); (have N8Q := newsTail N9Q); k_dflt (refine' noted2 (new := [_, _, _, _]) ?fr tiFsQ tiXQ1 F9Q ?N ?nd ?_ ; (case fr => exact rfl); (case N => exact N8Q); (case nd => exact rfl)); clear tiXQ1 tiFsQ; intro hQ1 frsQ1 tiSUQ1 tiFsQ1 tiHQ1 _; (obtain ⟨sl1Q1, sl0Q1, eeQ1⟩ := same2 tiSUQ1; subst eeQ1); clear tiSUQ1; (try simp only [List.nil_append, List.cons_append] at tiHQ1); have tiHHQ1 := TT.HeldNA.held tiHQ1)
  k_with "noteFrame ref" => (k_here; (with_reducible rename PStop => ps9Q); refine Hold.out ?_)
  k_with "subscriptTail Name Name ref int" => (k_here; (with_reducible rename Fr _ _ _ _ => F9Q); (with_reducible rename Lone1 _ => lone9Q); (with_reducible rename News _ _ _ _ => N9Q); (with_reducible show wpAny _ _ (subscriptTail _ _ (Value.ref _) (Value.int _ _)) _ _ _); (with_unfolding_all refine' outMarked ?k0 (loneIn N9Q ?km lone9Q) ?k1 ?k2 ?k3 ?k4 ?_ ?k6; (case k0 => exact rfl); (case km => exact List.mem_cons_self ..); (case k1 => exact lstAt N9Q (by k_mem)); (case k2 => assumption); (case k3 => omega); (case k4 => omega); (case k6 => with_unfolding_all rfl)); k_whole; intro hQ1 tkQ1 eQ1 xQ1)
  have X := XB.keeps (hid_stays hb hN0)
  have T := TB.keeps (hid_stays hb hN0)
  revert X law; k_fill; intro law X; clear law
  have hK := fun h' => @hidF_keeps s.heap h' [(l, listOf vs.toArray c), (l', listOf us.toArray c')] [(L1, o1), (L0, o0)] hN
  simp only [List.cons_append, List.nil_append] at hK
  have hNo := fun b => @hid_none s.heap [(l, listOf vs.toArray c), (l', listOf us.toArray c'), (L1, o1), (L0, o0)] b
  refine wpAny_call ?_
  refine' enterG (binds := [(Str.ofString "expected", .ref l), (Str.ofString "actual", .ref l')]) X T hdp hN ?ho ?hcd ?hb ?hl ?_ ?c2 ?c3 ?c4 ?c5
  (case ho => k_dflt k_is); (case hcd => k_dflt k_is); (case hb => exact rfl); (case hl => exact locs rfl); (case c2 => exact rfl); (case c3 => exact rfl); (case c4 => exact rfl); (case c5 => decide)
  intro L' h₁ F' N' l1'
  k_lt l1'
  try dsimp only [List.reverse_cons, List.reverse_nil, List.nil_append, List.cons_append] at F'
  generalize hid _ _ = g at *
  clear XB TB
  try dsimp only
  try k_fold
  k_steps
  refine Hold.into ?_
  rename_i mi _ l1a _ _ ux _ l1b _ F' N'
  refine ksw_while (fun c'' : SSt => [(ux, listOf #[] 0), (mi, listOf c''.ms.toArray c''.e1), (l, listOf vs.toArray c), (l', listOf us.toArray c'), (L1, o1), (L0, o0)]) (fun c => [(Str.ofString "j", .int c.j c.tj), (Str.ofString "i", .int c.i c.ti)]) (fun c => StrsAre c.ms c.es) [Str.ofString "e", Str.ofString "a"]
    (SInv xs ys) (fun c => xs.length - c.i.toNat) ⟨0, 0, _, _, [], [], _⟩ F' N' .nil (by intro p hp; rcases List.mem_cons.mp hp with rfl | hp; exact rfl; rw [List.mem_singleton.mp hp]; exact rfl) ⟨Int.le_refl _, Int.le_refl _, by show (0 : Int) < _; omega, by simp, by simpa using hsub, by simp, by simp⟩ ?_
  clear F' N'
  rintro ⟨i, j, ti, tj, ms, es, f1⟩ u hh tk2 hM ⟨i0, j0, i1, j1, hsb, hes, hE⟩ F2 N2
  dsimp only at hM i0 j0 i1 j1 hsb hes hE F2 N2 ⊢
  simp only [kstB] at F2
  have hml := hM.length
  have hvl := hS.length
  have hul := hS'.length
  cases hxr : xs.drop i.toNat with
  | nil =>
    have hi : xs.length ≤ i.toNat := by simpa using hxr
    omega
  | cons e xr =>
    have hI : SInv xs ys ⟨i, j, ti, tj, ms, es, f1⟩ := ⟨i0, j0, i1, j1, hsb, hes, hE⟩
    have ij : (i + 1).toNat = i.toNat + 1 := by omega
    have jj : (j + 1).toNat = j.toNat + 1 := by omega
    obtain ⟨te, hte, hvd, hvr⟩ := strsCons' hS hxr
    have hdl : (vs.drop (i.toNat + 1)).length ≤ 5 := by rw [List.length_drop]; omega
    cases hyr : ys.drop j.toNat with
    | nil =>
      have hj : ys.length ≤ j.toNat := by simpa using hyr
      have ho : ((us.toArray.size : Nat) : Int) ≤ j := by rw [List.size_toArray]; omega
      have hud : us.drop j.toNat = [] := by simp; omega
      k_steps
      (rename Fr _ _ _ _ => F9); (rename News _ _ _ _ => N9)
      have T9 := sldEnd F9 N9 hK hNo l1a l1b (by assumption)
      refine hret _ _ _ _ _ _ _ _ T9.1 T9.2 ?d
      case d =>
        rw [← hE, hxr, hyr, List.filter_eq_self.mpr (fun x _ => by simp)]
        exact hM.append' (.cons _ te hvr)
    | cons a yr =>
      obtain ⟨ta, hta, hud, hur⟩ := strsCons' hS' hyr
      have hdl' : (us.drop (j.toNat + 1)).length ≤ 5 := by rw [List.length_drop]; omega
      have hin : a ∈ e :: xr := by rw [← hxr]; exact hsb a (by rw [hyr]; exact List.mem_cons_self ..)
      rcases List.mem_cons.mp hin with rfl | hin
      · have hnl : ¬ (a.cps.toList < a.cps.toList) := List.lt_irrefl _
        cases xr with
        | nil =>
          have hi2 : xs.length ≤ (i + 1).toNat := by rw [ij]; simpa using (dropS hxr).1
          have hoi : ((vs.toArray.size : Nat) : Int) ≤ i + 1 := by rw [List.size_toArray]; omega
          have hvd2 : vs.drop (i + 1).toNat = [] := by simp; omega
          have hyr0 : yr = [] := by
            cases yr with
            | nil => rfl
            | cons a2 yr => exact absurd ((inv_same hxs hys hI hxr hyr).1 a2 (List.mem_cons_self ..)) (by simp)
          subst hyr0
          have hj : ys.length ≤ (j + 1).toNat := by rw [jj]; simpa using (dropS hyr).1
          have ho : ((us.toArray.size : Nat) : Int) ≤ j + 1 := by rw [List.size_toArray]; omega
          have hud2 : us.drop (j + 1).toNat = [] := by simp; omega
          have ps : PStop := .mk
          k_steps
          (rename PStop => ps9); clear ps9
          refine Hold.into ?_
          (rename Fr _ _ _ _ => F9); (rename News _ _ _ _ => N9); (rename Heap.NewExc _ _ _ _ => x9)
          refine noted2 (new := [_, _, _, _]) rfl Fs (newCtx_of x9).1 F9 N9 rfl ?_
          clear Fs
          intro hq frs' SU' Fs' H' C'
          (obtain ⟨sl1', sl0', ee'⟩ := same2 SU'; subst ee'); clear SU'
          (try simp only [List.nil_append, List.cons_append] at H')
          refine ⟨ref_ne_byPass _, ?_⟩
          refine noteAgain rfl H' ?_
          refine land2 H' (C' (newCtx_of x9).2) ?_
          clear F9 N9 x9 C' H'
          intro hq2 oe1 F9 N9 lone
          refine wpAny_passesOwnAt (by passes_own) ?_
          k_steps
          (rename Fr _ _ _ _ => F9); (rename News _ _ _ _ => N9)
          have T9 := sldEnd F9 N9 hK hNo l1a l1b (by assumption)
          refine hret _ _ _ _ _ _ _ _ T9.1 T9.2 ?d
          case d =>
            rw [← (inv_same hxs hys hI hxr hyr).2, List.filter_eq_self.mpr (fun x _ => by simp)]
            simpa using hM
        | cons e2 xr =>
          have hx2 : xs.drop (i + 1).toNat = e2 :: xr := by rw [ij]; exact (dropS hxr).1
          obtain ⟨te2, hte2, hvd2, hvr2⟩ := strsCons' hS hx2
          have hqx : (e2 == a) = false := by
            have := ltS_ne (inc_drop hxs hxr e2 (List.mem_cons_self ..))
            simpa using fun e9 => this e9.symm
          cases yr with
          | nil =>
            have hj : ys.length ≤ (j + 1).toNat := by rw [jj]; simpa using (dropS hyr).1
            have ho : ((us.toArray.size : Nat) : Int) ≤ j + 1 := by rw [List.size_toArray]; omega
            have hud2 : us.drop (j + 1).toNat = [] := by simp; omega
            have hdl2 : (vs.drop ((i + 1).toNat + 1)).length ≤ 5 := by rw [List.length_drop]; omega
            k_steps
            refine (show PassesOwn _ _ _ _ by passes_own) _ _ ?_
            k_steps
            (rename Fr _ _ _ _ => F9); (rename News _ _ _ _ => N9)
            have T9 := sldEnd F9 N9 hK hNo l1a l1b (by assumption)
            refine hret _ _ _ _ _ _ _ _ T9.1 T9.2 ?d
            case d =>
              rw [← (inv_same hxs hys hI hxr hyr).2, List.filter_eq_self.mpr (fun x _ => by simp)]
              exact hM.append' (.cons _ te2 hvr2)
          | cons a2 yr =>
            have hy2 : ys.drop (j + 1).toNat = a2 :: yr := by rw [jj]; exact (dropS hyr).1
            obtain ⟨ta2, hta2, hud2, hur2⟩ := strsCons' hS' hy2
            have hqy : (a2 == a) = false := by
              have := ltS_ne (inc_drop hys hyr a2 (List.mem_cons_self ..))
              simpa using fun e9 => this e9.symm
            k_steps
            (rename Fr _ _ _ _ => F9); (rename News _ _ _ _ => N9)
            (try simp only [List.push_toArray] at N9)
            refine ksw_end (c := (⟨i, j, ti, tj, ms, es, f1⟩ : SSt)) ⟨i + 1, j + 1, _, _, _, _, _⟩ F9 N9 (fun p hp => hp) hM (by intro p hp; rcases List.mem_cons.mp hp with rfl | hp; exact rfl; rw [List.mem_singleton.mp hp]; exact rfl) ?_ (inv_next hxs hys hI hxr hyr _ _ _ _) (by show xs.length - (i + 1).toNat < xs.length - i.toNat; omega)
            ksw_same
      · cases xr with
        | nil => exact absurd hin (by simp)
        | cons e2 xr =>
          have hlt : ltS e a := inc_drop hxs hxr a hin
          have hlt' : e.cps.toList < a.cps.toList := hlt
          have hx2 : xs.drop (i + 1).toNat = e2 :: xr := by rw [ij]; exact (dropS hxr).1
          obtain ⟨te2, hte2, hvd2, hvr2⟩ := strsCons' hS hx2
          have hq : (e2 == e) = false := by
            have := ltS_ne (inc_drop hxs hxr e2 (List.mem_cons_self ..))
            simpa using fun e9 => this e9.symm
          k_steps
          (rename Fr _ _ _ _ => F9); (rename News _ _ _ _ => N9)
          (try simp only [List.push_toArray] at N9)
          refine ksw_end (c := (⟨i, j, ti, tj, ms, es, f1⟩ : SSt)) ⟨i + 1, j, _, _, _, _, _⟩ F9 N9 (fun p hp => hp) (hM.append' (.cons _ _ .nil)) (by intro p hp; rcases List.mem_cons.mp hp with rfl | hp; exact rfl; rw [List.mem_singleton.mp hp]; exact rfl) ?_ (inv_less hys hI hxr hyr hlt _ _ _ _) (by show xs.length - (i + 1).toNat < xs.length - i.toNat; omega)
          ksw_same
end Mine
end
section
open PySem PySem.W PyProof.Rows PySem.Calls
set_option Elab.async false
set_option maxRecDepth 100000
set_option maxHeartbeats 4000000
namespace Mine
def ForStep (h₀ : Heap) (L I : Addr) (oI : Obj) (src : List (Addr × Obj)) (J : (Str → Option Value) → List (Addr × Obj) → Prop) (s : Shared) (Q : Flow → Shared → Prop) (f : Flow) (s₂ : Shared) : Prop :=
  match f with
  | .ret v => Q (.ret v) s₂
  | .brk => Q .next s₂
  | _ => ∃ h' tk m' nx, s₂ = { s with heap := h', toks := tk } ∧ Fr h₀ L h' m' ∧ News h₀ L h' ((I, oI) :: nx) ∧ (∀ p ∈ nx, p.1 ≠ I) ∧ (∀ q ∈ src, q ∈ nx) ∧ J m' nx
theorem forStep {h₀ : Heap} {L I : Addr} {oI : Obj} {src : List (Addr × Obj)} {J : (Str → Option Value) → List (Addr × Obj) → Prop} {s : Shared} {Q : Flow → Shared → Prop} {h' : Heap} {tk : Nat} {m' : Str → Option Value} {led : List (Addr × Obj)} (nx : List (Addr × Obj))
    (F : Fr h₀ L h' m') (N : News h₀ L h' led) (hI : (I, oI) ∈ led) (hs : ∀ p ∈ nx, p ∈ led) (ne : ∀ p ∈ nx, p.1 ≠ I) (hq : ∀ q ∈ src, q ∈ nx) (hJ : J m' nx) : ForStep h₀ L I oI src J s Q .next { s with heap := h', toks := tk } :=
  ⟨h', tk, m', nx, rfl, F, fun p hp => by
    rcases List.mem_cons.mp hp with rfl | hp
    · exact N _ hI
    · exact N _ (hs p hp), ne, hq, hJ⟩
section
variable {prog : Program} {w : World} {A : Around} {E : Value → Shared → Prop} {s : Shared} {env : Env} {h₀ : Heap} {Q : Flow → Shared → Prop}
theorem forGen {target : PySem.Expr} {body : List Stmt} {I : Addr} {fp : List Addr} {n : Nat} {P : Nat → Value → Prop} {St : Nat → Heap → Prop} {m : Str → Option Value} {news src : List (Addr × Obj)} (J : Nat → (Str → Option Value) → List (Addr × Obj) → Prop)
    (W : Walks prog w A I fp [I] n P St) (hfp : ∀ b ∈ fp, b = I ∨ ∃ q ∈ src, q.1 = b) (hIL : env.locals ≠ I) (hI0 : h₀.get? I = none) (hst : St 0 s.heap) (hIs : ∃ oI, s.heap.get? I = some oI) (hStI : ∀ i h, St i h → ∃ oI, h.get? I = some oI)
    (F : Fr h₀ env.locals s.heap m) (N : News h₀ env.locals s.heap news) (hsrc : ∀ q ∈ src, q ∈ news) (hnI : ∀ p ∈ news, p.1 ≠ I) (hj : J 0 m news)
    (turn : ∀ i v m₁ news₁ h tk oI, i < n → P i v → J i m₁ news₁ → (∀ q ∈ src, q ∈ news₁) → Fr h₀ env.locals h m₁ → News h₀ env.locals h ((I, oI) :: news₁) → (∀ p ∈ news₁, p.1 ≠ I) →
      wpAny (model prog w) A (assign target env v) (fun _ s₂ => wpAny (model prog w) A (execs body env) (ForStep h₀ env.locals I oI src (J (i + 1)) s Q) E s₂) E { s with heap := h, toks := tk })
    (done : ∀ m₁ news₁ h tk, J n m₁ news₁ → Fr h₀ env.locals h m₁ → News h₀ env.locals h news₁ → Q .next { s with heap := h, toks := tk })
    (hE : PassesOwn (model prog w) A env E) (ht : ∀ v, letOwnedTupleGo target (.ref I) v = pure () := by intro _; rfl) :
    codeAny (model prog w) A (.forLoop target (.ref I) body [] env) (fun r s' => match r with | .ok f => Q f s' | .error e => cameBackBy (model prog w) A env E e s') s := by
  refine codeAny_forLoop (R := fun r s' => match r with | .ok f => Q f s' | .error e => cameBackBy (model prog w) A env E e s')
    (fun k s' => ∃ h' tk m' news' i, s' = { s with heap := h', toks := tk } ∧ St i h' ∧ Fr h₀ env.locals h' m' ∧ News h₀ env.locals h' news' ∧ (∀ p ∈ news', p.1 ≠ I) ∧ (∀ q ∈ src, q ∈ news') ∧ J i m' news' ∧ i ≤ n ∧ k = n + 1 - i) ?_ (n + 1)
    ⟨s.heap, s.toks, m, news, 0, rfl, hst, F, N, hnI, hsrc, hj, Nat.zero_le _, rfl⟩ ht
  rintro k s' ⟨h', tk, m', news', i, rfl, hst', F', N', hnw', hsr', hJ, hi, rfl⟩
  have next : ∀ h₁ : Heap, (∀ b o, b ∉ [I] → h'.get? b = some o → h₁.get? b = some o) → Fr h₀ env.locals h₁ m' ∧ News h₀ env.locals h₁ news' := fun h₁ hk₁ =>
    ⟨⟨F'.ns.at' fun o e => hk₁ _ o (by simpa using hIL) e, fun b o e => hk₁ b o (by intro hb; rw [List.mem_singleton.mp hb, hI0] at e; cases e) (F'.keep b o e), F'.above⟩, fun p hp => ⟨hk₁ _ _ (by simpa using hnw' p hp) (N' p hp).1, (N' p hp).2⟩⟩
  by_cases hlt : i < n
  · refine W.item i _ _ _ hlt hst' fun v h₁ tk₁ hP hst₁ hk₁ => ?_
    obtain ⟨F₁, N₁⟩ := next h₁ hk₁
    obtain ⟨oI, hoI⟩ := hStI _ _ hst₁
    have NI : News h₀ env.locals h₁ ((I, oI) :: news') := fun p hp => by
      rcases List.mem_cons.mp hp with rfl | hp
      · exact ⟨hoI, fun e => hIL e.symm, hI0⟩
      · exact N₁ p hp
    have fin : ∀ s₃, (∃ h'' tk'' m'' nx, s₃ = ({ s with heap := h'', toks := tk'' } : Shared) ∧ Fr h₀ env.locals h'' m'' ∧ News h₀ env.locals h'' ((I, oI) :: nx) ∧ (∀ p ∈ nx, p.1 ≠ I) ∧ (∀ q ∈ src, q ∈ nx) ∧ J (i + 1) m'' nx) →
        ∃ mm, mm < n + 1 - i ∧ ∃ h'' tk'' m'' news'' i', s₃ = ({ s with heap := h'', toks := tk'' } : Shared) ∧ St i' h'' ∧ Fr h₀ env.locals h'' m'' ∧ News h₀ env.locals h'' news'' ∧ (∀ p ∈ news'', p.1 ≠ I) ∧ (∀ q ∈ src, q ∈ news'') ∧ J i' m'' news'' ∧ i' ≤ n ∧ mm = n + 1 - i' := by
      rintro s₃ ⟨h'', tk'', m'', nx, e, F'', N'', ne, hq, hJ''⟩
      refine ⟨n + 1 - (i + 1), by omega, h'', tk'', m'', nx, i + 1, e, ?_, F'', fun p hp => N'' p (List.mem_cons_of_mem _ hp), ne, hq, hJ'', hlt, rfl⟩
      refine W.frame _ _ _ hst₁ fun b hb o e' => ?_
      rcases hfp b hb with rfl | ⟨q, hq', rfl⟩
      · rw [hoI] at e'
        rw [← Option.some.inj e']
        exact (N'' _ (List.mem_cons_self ..)).1
      · have := (N₁ q (hsr' q hq')).1
        rw [e'] at this
        rw [Option.some.inj this]
        exact (N'' q (List.mem_cons_of_mem _ (hq q hq'))).1
    refine wpAny_passesOwn hE (wpAny_mono (turn i v m' news' h₁ tk₁ oI hlt hP hJ hsr' F₁ NI hnw') (fun _ s₂ h₂ => ?_) fun _ _ e => e)
    refine wpAny_passesOwn hE (wpAny_mono h₂ (fun f s₃ h₃ => ?_) fun _ _ e => e)
    cases f with
    | ret v => exact h₃
    | brk => exact h₃
    | cont => exact fin _ h₃
    | next => exact fin _ h₃
  · have hin : i = n := by omega
    subst hin
    refine W.done _ _ _ hst' fun h₁ tk₁ hk₁ => ?_
    obtain ⟨F₁, N₁⟩ := next h₁ hk₁
    exact wpAny_pure (done m' news' h₁ tk₁ hJ F₁ N₁)
/-- a loop over a list of the ledger, at the call of iter -/
theorem forList {target : PySem.Expr} {body : List Stmt} {l : Addr} {vs : List Value} {nn : Nat} {m : Str → Option Value} {news : List (Addr × Obj)} (J : Nat → (Str → Option Value) → List (Addr × Obj) → Prop)
    (hh : A.handled = none) (hl : (l, listOf vs.toArray nn) ∈ news) (F : Fr h₀ env.locals s.heap m) (N : News h₀ env.locals s.heap news) (hj : J 0 m news)
    (turn : ∀ i v m₁ news₁ h tk I oI, vs[i]? = some v → (∀ p ∈ news, p.1 < I) → J i m₁ news₁ → (l, listOf vs.toArray nn) ∈ news₁ → Fr h₀ env.locals h m₁ → News h₀ env.locals h ((I, oI) :: news₁) → (∀ p ∈ news₁, p.1 ≠ I) →
      wpAny (model prog w) A (assign target env v) (fun _ s₂ => wpAny (model prog w) A (execs body env) (ForStep h₀ env.locals I oI [(l, listOf vs.toArray nn)] (J (i + 1)) s Q) E s₂) E { s with heap := h, toks := tk })
    (done : ∀ m₁ news₁ h tk, J vs.length m₁ news₁ → Fr h₀ env.locals h m₁ → News h₀ env.locals h news₁ → Q .next { s with heap := h, toks := tk })
    (hE : PassesOwn (model prog w) A env E) (ht : ∀ it v, letOwnedTupleGo target it v = pure () := by intro _ _; rfl) :
    wpAny (model prog w) A (pyIter (.ref l)) (fun it s₂ => codeAny (model prog w) A (.forLoop target it body [] env) (fun r s' => match r with | .ok f => Q f s' | .error e => cameBackBy (model prog w) A env E e s') s₂) E s := by
  have hol := (N _ hl).1
  have hls : s.heap.IsList l vs.toArray := ⟨_, hol, rfl, nn, rfl⟩
  have hne : l ≠ s.heap.objs.size := Nat.ne_of_lt (Heap.lt_size hol)
  refine wpAny_pyIter_list hls ?_
  have W := Walks.list (prog := prog) (w := w) hh s.heap.objs.size l hne vs.toArray
  refine forGen (src := [(l, listOf vs.toArray nn)]) J W (fun b hb => ?_) (Nat.ne_of_lt F.ns.lt) (next_is_new F) ⟨⟨_, Heap.get?_push_size _ rfl, rfl, rfl⟩, hls.at fun o e => Heap.get?_push_of_some _ e⟩ ⟨_, Heap.get?_push_size _ rfl⟩ (fun i h st => by obtain ⟨o, e, _⟩ := st.1; exact ⟨o, e⟩) (F.push _) (fun p hp => ⟨Heap.get?_push_of_some _ (N p hp).1, (N p hp).2⟩) (fun q hq => by rw [List.mem_singleton.mp hq]; exact hl) (fun p hp => Nat.ne_of_lt (Heap.lt_size (N p hp).1)) hj ?_ ?_ hE (fun v => ht _ v)
  · rcases List.mem_cons.mp hb with e | hb
    · exact .inl e
    · exact .inr ⟨_, List.mem_singleton.mpr rfl, (List.mem_singleton.mp hb).symm⟩
  · intro i v m₁ news₁ h tk oI hi hP hJ hs F₁ N₁ ne
    exact turn i v m₁ news₁ h tk _ oI (by simpa using hP) (fun p hp => Heap.lt_size (N p hp).1) hJ (hs _ (List.mem_singleton.mpr rfl)) F₁ N₁ ne
  · intro m₁ news₁ h tk hJ F₁ N₁
    rw [List.size_toArray] at hJ
    exact done m₁ news₁ h tk hJ F₁ N₁
theorem forTuple {target : PySem.Expr} {body : List Stmt} {l : Addr} {vs : List Value} {m : Str → Option Value} {news : List (Addr × Obj)} (J : Nat → (Str → Option Value) → List (Addr × Obj) → Prop)
    (hh : A.handled = none) (hl : (l, ({ cls := .type "tuple", data := .seq vs.toArray } : Obj)) ∈ news) (F : Fr h₀ env.locals s.heap m) (N : News h₀ env.locals s.heap news) (hj : J 0 m news)
    (turn : ∀ i v m₁ news₁ h tk I oI, vs[i]? = some v → (∀ p ∈ news, p.1 < I) → J i m₁ news₁ → (l, ({ cls := .type "tuple", data := .seq vs.toArray } : Obj)) ∈ news₁ → Fr h₀ env.locals h m₁ → News h₀ env.locals h ((I, oI) :: news₁) → (∀ p ∈ news₁, p.1 ≠ I) →
      wpAny (model prog w) A (assign target env v) (fun _ s₂ => wpAny (model prog w) A (execs body env) (ForStep h₀ env.locals I oI [(l, ({ cls := .type "tuple", data := .seq vs.toArray } : Obj))] (J (i + 1)) s Q) E s₂) E { s with heap := h, toks := tk })
    (done : ∀ m₁ news₁ h tk, J vs.length m₁ news₁ → Fr h₀ env.locals h m₁ → News h₀ env.locals h news₁ → Q .next { s with heap := h, toks := tk })
    (hE : PassesOwn (model prog w) A env E) (ht : ∀ it v, letOwnedTupleGo target it v = pure () := by intro _ _; rfl) :
    wpAny (model prog w) A (pyIter (.ref l)) (fun it s₂ => codeAny (model prog w) A (.forLoop target it body [] env) (fun r s' => match r with | .ok f => Q f s' | .error e => cameBackBy (model prog w) A env E e s') s₂) E s := by
  have hol := (N _ hl).1
  have hls : s.heap.IsTuple l vs.toArray := ⟨_, hol, rfl, _, rfl⟩
  have hne : l ≠ s.heap.objs.size := Nat.ne_of_lt (Heap.lt_size hol)
  refine wpAny_pyIter_tuple hls ?_
  have W := Walks.tuple (prog := prog) (w := w) hh s.heap.objs.size l hne vs.toArray
  refine forGen (src := [(l, _)]) J W (fun b hb => ?_) (Nat.ne_of_lt F.ns.lt) (next_is_new F) ⟨⟨_, Heap.get?_push_size _ rfl, rfl, rfl⟩, hls.at fun o e => Heap.get?_push_of_some _ e⟩ ⟨_, Heap.get?_push_size _ rfl⟩ (fun i h st => by obtain ⟨o, e, _⟩ := st.1; exact ⟨o, e⟩) (F.push _) (fun p hp => ⟨Heap.get?_push_of_some _ (N p hp).1, (N p hp).2⟩) (fun q hq => by rw [List.mem_singleton.mp hq]; exact hl) (fun p hp => Nat.ne_of_lt (Heap.lt_size (N p hp).1)) hj ?_ ?_ hE (fun v => ht _ v)
  · rcases List.mem_cons.mp hb with e | hb
    · exact .inl e
    · exact .inr ⟨_, List.mem_singleton.mpr rfl, (List.mem_singleton.mp hb).symm⟩
  · intro i v m₁ news₁ h tk oI hi hP hJ hs F₁ N₁ ne
    exact turn i v m₁ news₁ h tk _ oI (by simpa using hP) (fun p hp => Heap.lt_size (N p hp).1) hJ (hs _ (List.mem_singleton.mpr rfl)) F₁ N₁ ne
  · intro m₁ news₁ h tk hJ F₁ N₁
    rw [List.size_toArray] at hJ
    exact done m₁ news₁ h tk hJ F₁ N₁
theorem forRange {target : PySem.Expr} {body : List Stmt} {r : Addr} {a₀ b₀ : Int} {t₀ u₀ v₀ : Tok} {n : Nat} {m : Str → Option Value} {news : List (Addr × Obj)} (J : Nat → (Str → Option Value) → List (Addr × Obj) → Prop)
    (hh : A.handled = none) (hr : IsRange s.heap r a₀ b₀ 1 t₀ u₀ v₀) (hsmall : Builtin.Range.small a₀ b₀ 1 = true) (hn : Builtin.Range.rangeSize a₀ b₀ 1 = (n : Int)) (F : Fr h₀ env.locals s.heap m) (N : News h₀ env.locals s.heap news) (hj : J 0 m news)
    (turn : ∀ (i : Nat) t m₁ news₁ h tk I oI, i < n → (∀ p ∈ news, p.1 < I) → J i m₁ news₁ → Fr h₀ env.locals h m₁ → News h₀ env.locals h ((I, oI) :: news₁) → (∀ p ∈ news₁, p.1 ≠ I) →
      wpAny (model prog w) A (assign target env (.int (a₀ + (i : Int)) t)) (fun _ s₂ => wpAny (model prog w) A (execs body env) (ForStep h₀ env.locals I oI [] (J (i + 1)) s Q) E s₂) E { s with heap := h, toks := tk })
    (done : ∀ m₁ news₁ h tk, J n m₁ news₁ → Fr h₀ env.locals h m₁ → News h₀ env.locals h news₁ → Q .next { s with heap := h, toks := tk })
    (hE : PassesOwn (model prog w) A env E) (ht : ∀ it v, letOwnedTupleGo target it v = pure () := by intro _ _; rfl) :
    wpAny (model prog w) A (pyIter (.ref r)) (fun it s₂ => codeAny (model prog w) A (.forLoop target it body [] env) (fun r s' => match r with | .ok f => Q f s' | .error e => cameBackBy (model prog w) A env E e s') s₂) E s := by
  refine wpAny_pyIter_range hr hsmall ?_
  have W := Walks.range (prog := prog) (w := w) hh s.heap.objs.size a₀ 1 n
  refine forGen (src := []) J W (fun b hb => .inl (List.mem_singleton.mp hb)) (Nat.ne_of_lt F.ns.lt) (next_is_new F) (by show IsRangeIter _ _ _ _ _; rw [hn]; simpa using Heap.get?_push_size _ rfl) ⟨_, Heap.get?_push_size _ rfl⟩ (fun i h st => ⟨_, st⟩) (F.push _) (fun p hp => ⟨Heap.get?_push_of_some _ (N p hp).1, (N p hp).2⟩) (fun q hq => absurd hq (by simp)) (fun p hp => Nat.ne_of_lt (Heap.lt_size (N p hp).1)) hj ?_ done hE (fun v => ht _ v)
  intro i v m₁ news₁ h tk oI hi hP hJ hs F₁ N₁ ne
  obtain ⟨t, rfl⟩ := hP
  have e : a₀ + (i : Int) * 1 = a₀ + (i : Int) := by omega
  rw [e]
  exact turn i t m₁ news₁ h tk _ oI hi (fun p hp => Heap.lt_size (N p hp).1) hJ F₁ N₁ ne
end
end Mine
end
section
open PySem PySem.W PyProof.Rows PySem.Calls
set_option Elab.async false
set_option maxRecDepth 100000
set_option maxHeartbeats 4000000
namespace Mine
section
variable {prog : Program} {w : World} {A : Around} {E : Value → Shared → Prop} {s : Shared} {h₀ : Heap} {L : Addr} {m : Str → Option Value} {env : Env}
theorem crT {ct elt : PySem.Expr} {x : Str} {scope : Scope} {cl : List (Str × Addr)} {S : List (Addr × Obj) → Prop} {P : Nat → Value → Prop} {Fin : List Value → List (Addr × Obj) → Prop} {news : List (Addr × Obj)} {n : Nat} (I : Nat → List Value → Prop) (h0 : I 0 [])
    (turn : ∀ i v It oI C oC D m₂ ys h tk (E' : Value → Shared → Prop), i < n → P i v → I i ys → LCg.NsObj oC m₂ → m₂ x = some v → Fr h₀ L h m → News h₀ L h ((It, oI) :: (C, oC) :: (D, LCg.lst ys) :: news) → LCg.Off3 It C D news → ((@Ne Nat It C) ∧ (@Ne Nat It D) ∧ (@Ne Nat C D)) →
      wpAny (model prog w) A (isTrue ct (compEnvC scope cl C env) (eval ct (compEnvC scope cl C env))) (fun b s' => if b = true then wpAny (model prog w) A (eval elt (compEnvC scope cl C env)) (LCg.CompEnd h₀ L m { s with heap := h, toks := tk } It oI C oC D (LCg.lst ys) S (fun y news' => news' = news ∧ I (i + 1) (ys ++ [y]))) E' s'
        else LCg.CompEnd h₀ L m { s with heap := h, toks := tk } It oI C oC D (LCg.lst ys) S (fun _ news' => news' = news ∧ I (i + 1) ys) Value.none s') E' { s with heap := h, toks := tk })
    (fin : ∀ ys, I n ys → Fin ys news) : LCt.CompRestT prog w A h₀ L m env ct elt x scope cl s S P Fin n 0 [] news := by
  have key : ∀ (j i : Nat) (ys : List Value), i + j = n → I i ys → LCt.CompRestT prog w A h₀ L m env ct elt x scope cl s S P Fin j i ys news := by
    intro j
    induction j with
    | zero => intro i ys hi hy; exact LCt.CompRestT.zero (fin ys (by rw [← hi]; exact hy))
    | succ j ih =>
      intro i ys hi hy
      refine LCt.CompRestT.succ ?_
      intro v It oI C oC D m₂ h tk E' hv hC hx F N off ne
      refine wpAny_mono (turn i v It oI C oC D m₂ ys h tk E' (by omega) hv hy hC hx F N off ne) (fun b s₂ hq => ?_) fun _ _ e => e
      cases b with
      | true =>
        simp only [if_true] at hq ⊢
        refine wpAny_mono hq (fun y s₃ hr => ?_) fun _ _ e => e
        obtain ⟨h', tk', nw, e, F', N', off', hS, rfl, hr'⟩ := hr
        exact ⟨h', tk', nw, e, F', N', off', hS, ih (i + 1) _ (by omega) hr'⟩
      | false =>
        simp only [Bool.false_eq_true, if_false] at hq ⊢
        obtain ⟨h', tk', nw, e, F', N', off', hS, rfl, hr'⟩ := hq
        exact ⟨h', tk', nw, e, F', N', off', hS, ih (i + 1) _ (by omega) hr'⟩
  exact key n 0 [] (by omega) h0
theorem crU {elt : PySem.Expr} {x : Str} {scope : Scope} {cl : List (Str × Addr)} {S : List (Addr × Obj) → Prop} {P : Nat → Value → Prop} {Fin : List Value → List (Addr × Obj) → Prop} {news : List (Addr × Obj)} {n : Nat} (I : Nat → List Value → Prop) (h0 : I 0 [])
    (turn : ∀ i v It oI C oC D m₂ ys h tk (E' : Value → Shared → Prop), i < n → P i v → I i ys → LCg.NsObj oC m₂ → m₂ x = some v → Fr h₀ L h m → News h₀ L h ((It, oI) :: (C, oC) :: (D, LCg.lst ys) :: news) → LCg.Off3 It C D news → ((@Ne Nat It C) ∧ (@Ne Nat It D) ∧ (@Ne Nat C D)) →
      wpAny (model prog w) A (eval elt (compEnvC scope cl C env)) (LCg.CompEnd h₀ L m { s with heap := h, toks := tk } It oI C oC D (LCg.lst ys) S (fun y news' => news' = news ∧ I (i + 1) (ys ++ [y]))) E' { s with heap := h, toks := tk })
    (fin : ∀ ys, I n ys → Fin ys news) : LCg.CompRest prog w A h₀ L m env elt x scope cl s S P Fin n 0 [] news := by
  have key : ∀ (j i : Nat) (ys : List Value), i + j = n → I i ys → LCg.CompRest prog w A h₀ L m env elt x scope cl s S P Fin j i ys news := by
    intro j
    induction j with
    | zero => intro i ys hi hy; exact LCg.CompRest.zero (fin ys (by rw [← hi]; exact hy))
    | succ j ih =>
      intro i ys hi hy
      refine LCg.CompRest.succ ?_
      intro v It oI C oC D m₂ h tk E' hv hC hx F N off ne
      refine wpAny_mono (turn i v It oI C oC D m₂ ys h tk E' (by omega) hv hy hC hx F N off ne) (fun y s₃ hr => ?_) fun _ _ e => e
      obtain ⟨h', tk', nw, e, F', N', off', hS, rfl, hr'⟩ := hr
      exact ⟨h', tk', nw, e, F', N', off', hS, ih (i + 1) _ (by omega) hr'⟩
  exact key n 0 [] (by omega) h0
end
end Mine
namespace Mine
def KJ {σ : Type} (Led : σ → List (Addr × Obj)) (ps : σ → List (Str × Value)) (Facts : σ → Prop) (stored : List Str) (m₀ : Str → Option Value) (P : Nat → σ → Prop) (i : Nat) (m : Str → Option Value) (nx : List (Addr × Obj)) : Prop :=
  ∃ c : σ, nx = Led c ∧ Facts c ∧ (∀ p ∈ ps c, m p.1 = some p.2) ∧ (∀ z, (∀ p ∈ ps c, z ≠ p.1) → stored.contains z = false → m z = m₀ z) ∧ P i c
section
variable {σ : Type} {Led : σ → List (Addr × Obj)} {ps : σ → List (Str × Value)} {Facts : σ → Prop} {stored : List Str} {m₀ : Str → Option Value} {P : Nat → σ → Prop} {i : Nat}
theorem kj_start (c : σ) (hf : Facts c) (hk : ∀ p ∈ ps c, m₀ p.1 = some p.2) (hp : P 0 c) : KJ Led ps Facts stored m₀ P 0 m₀ (Led c) := ⟨c, rfl, hf, hk, fun _ _ _ => rfl, hp⟩
theorem kj_open {h₀ h : Heap} {L : Addr} {m₁ : Str → Option Value} {nx : List (Addr × Obj)} (hJ : KJ Led ps Facts stored m₀ P i m₁ nx) (F : Fr h₀ L h m₁) :
    ∃ c, nx = Led c ∧ Facts c ∧ P i c ∧ Fr h₀ L h (kstB (fun z => if stored.contains z then m₁ z else m₀ z) (ps c)) := by
  obtain ⟨c, h1, h2, h3, h4, h5⟩ := hJ
  exact ⟨c, h1, h2, h5, ksw_fr h3 h4 F⟩
theorem kj_end {h₀ : Heap} {L I : Addr} {oI : Obj} {src : List (Addr × Obj)} {s : Shared} {Q : Flow → Shared → Prop} {h' : Heap} {tk : Nat} {m' : Str → Option Value} {led : List (Addr × Obj)} (c : σ)
    (F : Fr h₀ L h' m') (N : News h₀ L h' led) (hI : (I, oI) ∈ led) (hs : ∀ p ∈ Led c, p ∈ led) (ne : ∀ p ∈ Led c, p.1 ≠ I) (hq : ∀ q ∈ src, q ∈ Led c) (hf : Facts c) (hk : ∀ p ∈ ps c, m' p.1 = some p.2)
    (hr : ∀ z, (∀ p ∈ ps c, z ≠ p.1) → stored.contains z = false → m' z = m₀ z) (hp : P (i + 1) c) : ForStep h₀ L I oI src (KJ Led ps Facts stored m₀ P (i + 1)) s Q .next { s with heap := h', toks := tk } :=
  forStep _ F N hI hs ne hq ⟨c, rfl, hf, hk, hr, hp⟩
end
def NeN (d : Nat) : List (Addr × Obj) → Prop
  | [] => True
  | p :: r => @Ne Nat p.1 d ∧ NeN d r
theorem neN {h₀ h h' : Heap} {L : Addr} {tl : List (Addr × Obj)} {d : Addr} {o : Obj} (hn : NewIn h h' tl) (hd : (d, o) ∈ tl) : ∀ {news : List (Addr × Obj)}, News h₀ L h news → NeN d news
  | [], _ => trivial
  | p :: r, N => ⟨fun e => (by have h1 := (N p (.head _)).1; have h2 := (hn _ hd).2; rw [show p.1 = d from e] at h1; rw [show h.get? d = none from h2] at h1; cases h1), neN hn hd (fun q hq => N q (.tail _ hq))⟩
theorem At.here {n : Nat} {w : World} {mean : ExcName → Option Value} {mg mb : Str → Option Value} {dp un : Nat} {gd : Option (List Code)} {base g h : Heap} {env1 env0 : Env} {L1 L0 : Addr} {o0 : Obj} {m : Str → Option Value} {led : List (Addr × Obj)}
    (law : PySem.Challenge.rw_il0057_01 = PySem.Challenge.rw_il0057_01) (XB : (hd0.heap_1 w.params).In base) (TB : Top VW LS mean mg mb base) (hbg : base.StaysIn g) (F : Fr g L1 h m) (N : News g L1 h led) (hm : (L0, o0) ∈ led) (F0 : TI.Frs [env0] [(L0, o0)])
    (hf : env1.frame = some L1) (hk : env1.scope.kind = .function) (d : dp + n < recursionLimit) (u : un + 8 * n < cLine) : At n w mean mg mb dp un gd [env1, env0] base h := by
  have hb : base.StaysIn h := fun b o e => F.keep b o (hbg b o e)
  have none_of : ∀ b, g.get? b = none → base.get? b = none := fun b e => by
    cases q : base.get? b with
    | none => rfl
    | some o => rw [hbg b o q] at e; cases e
  obtain ⟨o1, es, ep, hL, hLd, _⟩ := F.ns
  refine ⟨law, ⟨rfl, hb, ?_⟩, XB.keeps hb, TB.keeps hb, d, u⟩
  refine TI.Frs.fun (a := [(L1, o1), (L0, o0)]) ⟨by rw [hk]; decide, hf, ⟨_, _, hLd⟩, F0⟩ fun p hp => ?_
  simp only [List.mem_cons, List.not_mem_nil, or_false] at hp
  rcases hp with rfl | rfl
  · exact ⟨hL, none_of _ (Heap.get?_none_of_le F.above)⟩
  · exact ⟨(N _ hm).1, none_of _ (N _ hm).2.2⟩
theorem Frs.slots {env0 : Env} {L0 : Addr} {o0 : Obj} {sl : Array (Option Value)} (F0 : TI.Frs [env0] [(L0, o0)]) : TI.Frs [env0] [(L0, { o0 with slots := sl })] := F0
/-- after a call that may touch the slots of the frames -/
theorem afterF {g h h' : Heap} {L1 L0 : Addr} {o1 o0 : Obj} {m : Str → Option Value} {led : List (Addr × Obj)} (F : Fr g L1 h m) (N : News g L1 h (led ++ [(L0, o0)])) (hL : h.get? L1 = some o1) (hne : ∀ p ∈ led, p.1 ≠ L0) (K : KeepsF [(L1, o1), (L0, o0)] h h') :
    ∃ sl, Fr g L1 h' m ∧ News g L1 h' (led ++ [(L0, { o0 with slots := sl })]) := by
  obtain ⟨K1, K2⟩ := K
  obtain ⟨s1, h1⟩ := K2 (L1, o1) (List.mem_cons_self ..)
  obtain ⟨s0, h0⟩ := K2 (L0, o0) (by simp)
  obtain ⟨o, es, ep, ho, hd, r⟩ := F.ns
  rw [hL] at ho
  obtain rfl := Option.some.inj ho
  have gl : g.get? L0 = none := (N (L0, o0) (by simp)).2.2
  have gL : g.get? L1 = none := Heap.get?_none_of_le F.above
  refine ⟨s0, ⟨⟨_, es, ep, h1, hd, r⟩, fun b o e => K1 b o (F.keep b o e) (fun p hp q => ?_), F.above⟩, fun p hp => ?_⟩
  · simp only [List.mem_cons, List.not_mem_nil, or_false] at hp
    rcases hp with rfl | rfl
    · rw [show b = L1 from q.symm, gL] at e; cases e
    · rw [show b = L0 from q.symm, gl] at e; cases e
  · rcases List.mem_append.mp hp with hp' | hp'
    · have n := N p (List.mem_append_left _ hp')
      refine ⟨K1 _ _ n.1 (fun q hq e => ?_), n.2⟩
      simp only [List.mem_cons, List.not_mem_nil, or_false] at hq
      rcases hq with rfl | rfl
      · exact n.2.1 e.symm
      · exact hne p hp' e.symm
    · rw [List.mem_singleton.mp hp']
      exact ⟨h0, (N (L0, o0) (by simp)).2⟩
end Mine
end
section
open PySem PySem.W PyProof.Rows PySem.Calls
set_option Elab.async false
set_option maxRecDepth 100000
set_option maxHeartbeats 4000000
namespace Mine
theorem st_canLay : ∀ ns : List Str, (∀ x ∈ ns, PyData.strOk x = true) → PyData.canLayAll0 (ns.map PyData.str) = true
  | [], _ => rfl
  | x :: r, h => by simp [PyData.canLayAll0, PyData.canLay0, st_canLay r (fun y hy => h y (List.mem_cons_of_mem _ hy)), h x (List.mem_cons_self ..)]
theorem st_depth : ∀ ns : List Str, PyData.depthAll (ns.map PyData.str) = 0
  | [] => rfl
  | _ :: r => by simp [PyData.depthAll, PyData.depth, st_depth r]
theorem st_shaped (ns : List Str) (h : ∀ x ∈ ns, PyData.strOk x = true) : SeqAt.shaped (.list (ns.map PyData.str)) = true := by
  simp [SeqAt.shaped, PyData.canLay0, PyData.depth, st_canLay ns h, st_depth]
theorem st_sameAll : ∀ ns ms : List Str, PySem.Spec.sameAll (ns.map PyData.str) (ms.map PyData.str) = decide (ns = ms)
  | [], [] => by simp [PySem.Spec.sameAll]
  | [], _ :: _ => by simp [PySem.Spec.sameAll]
  | _ :: _, [] => by simp [PySem.Spec.sameAll]
  | a :: r, b :: t => by
    simp only [List.map_cons, PySem.Spec.sameAll, PySem.Spec.same, st_sameAll r t]
    by_cases h : a = b <;> by_cases h' : r = t <;> simp [h, h']
theorem st_same (ns ms : List Str) : PySem.Spec.same (.list (ns.map PyData.str)) (.list (ms.map PyData.str)) = decide (ns = ms) := by
  simp only [PySem.Spec.same]; exact st_sameAll ns ms
theorem st_carried : ∀ {vs : List Value} {ns : List Str}, StrsAre vs ns → CarriedAll vs (ns.map PyData.str)
  | _, _, .nil => .nil
  | _, _, .cons _ t r => .cons (.str _ t) (st_carried r)
theorem strsTake {vs : List Value} {xs : List Str} (h : StrsAre vs xs) : ∀ n, StrsAre (vs.take n) (xs.take n) := by
  intro n
  induction n generalizing vs xs with
  | zero => exact .nil
  | succ n ih =>
    cases h with
    | nil => exact .nil
    | cons s t h => exact .cons _ _ (ih h)
section
variable {prog : Program} {w : World} {A : Around} {E : Value → Shared → Prop} {s : Shared} {a b : Addr} {xs ys : List Value} {ns ms : List Str} {Q : Value → Shared → Prop}
theorem neStrs (ha : s.heap.IsList a xs.toArray) (hb : s.heap.IsList b ys.toArray) (hi : StrsAre xs ns) (hj : StrsAre ys ms) (ok1 : ∀ x ∈ ns, PyData.strOk x = true) (ok2 : ∀ x ∈ ms, PyData.strOk x = true) (hu : A.units + 64 < cLine) (h : Q (.bool (!decide (ns = ms))) s) :
    wpAny (model prog w) A (compareOp .NotEq (.ref a) (.ref b)) Q E s :=
  ne_dataH_same (reads_newData ha (st_carried hi)) (reads_newData hb (st_carried hj)) (st_shaped _ ok1) (st_shaped _ ok2) hu (SeqAt.noMix_of_shape (.list .str) rfl _ _ (list_map_has fun _ => rfl) (list_map_has fun _ => rfl)) (by rw [st_same]; exact h)
end
theorem pickTo {vs : List Value} {x : Int} (h : 0 ≤ x) : slicePick vs.toArray none (some x) none = (vs.take x.toNat).toArray := by
  have e : sliceBounds none (some x) none vs.toArray.size = (((0 : Nat) : Int), ((min x.toNat vs.toArray.size : Nat) : Int), 1) := by
    simp only [sliceBounds, Option.getD_none, show (1 : Int) > 0 by decide, if_true, if_neg (show ¬ (x < 0) by omega)]
    congr 2
    omega
  rw [kmk_pick_nat _ e]
  congr 1
  show (vs.drop 0).take (min x.toNat vs.toArray.size - 0) = vs.take x.toNat
  rw [List.drop_zero, Nat.sub_zero, List.size_toArray]
  by_cases hh : x.toNat ≤ vs.length
  · rw [Nat.min_eq_left hh]
  · rw [Nat.min_eq_right (by omega), List.take_of_length_le (Nat.le_refl _), List.take_of_length_le (by omega)]
section
variable {prog : Program} {w : World} {A : Around} {E : Value → Shared → Prop} {s : Shared} {h₀ : Heap} {L l D b : Addr} {m : Str → Option Value} {news news' : List (Addr × Obj)} {value slice : PySem.Expr} {vs zs ms : List Value} {x : Int} {t : Tok} {n n2 : Nat} {Q : Value → Shared → Prop} {xs : List Str}
theorem sliceTo (F : Fr h₀ L s.heap m) (N : News h₀ L s.heap news) (hl : (l, listOf vs.toArray n) ∈ news) (h0 : 0 ≤ x)
    (h : ∀ D h', Fr h₀ L h' m → News h₀ L h' ((D, listOf (vs.take x.toNat).toArray 0) :: news) → (∀ p ∈ news, p.1 < D) → Q (.ref D) { s with heap := h' })
    (hs : subscripted slice false (.ref l) (.ref s.heap.objs.size) = operate [.ref s.heap.objs.size, .ref l] (getItem (.ref l) (.ref s.heap.objs.size))) (ht : ∀ r, letTemporaryGo value (.ref l) r = pure ()) (hsz : vs.length ≤ 100) :
    wpAny (model prog w) A (subscriptTail value slice (.ref l) (.ref s.heap.objs.size)) Q E { s with heap := s.heap.push { cls := .type "slice", data := .fields #[.none, .int x t, .none] } } := by
  refine kmk_slice F N (lstAt N hl) (by constructor) (by constructor) (fun D h' F' N' l1 => h D h' F' ?_ l1) hs ht (by rw [sizeLine_eq, List.size_toArray]; omega)
  rw [pickTo h0] at N'
  exact N'
theorem sortStrs (F : Fr h₀ L s.heap m) (N : News h₀ L s.heap news) (hl : (l, listOf vs.toArray n) ∈ news) (hS : StrsAre vs xs) (h64 : vs.length < 64)
    (h : ∀ D c vs' ss' h', Fr h₀ L h' m → News h₀ L h' ((D, listOf (List.toArray vs') c) :: news) → (∀ p ∈ news, p.1 < D) → StrsAre vs' ss' → ss'.Perm xs → sortedS ss' = true → Q (.ref D) { s with heap := h' }) :
    wpAny (model prog w) A (call (.builtin "sorted") [.ref l]) Q E s :=
  sorted_N_str F N (lstAt N hl) hS h64 fun h' vs' ss' e F' N' a1 a2 a3 => h _ e vs' ss' h' F' N' (fun p hp => Nat.lt_succ_of_lt (Heap.lt_size (N p hp).1)) a1 a2 a3
end
theorem le_tr {a b c : List Nat} (h1 : ¬ b < a) (h2 : ¬ c < b) : ¬ c < a := by
  have h1' : a ≤ b := h1
  have h2' : b ≤ c := h2
  have : a ≤ c := List.le_trans h1' h2'
  exact this
theorem rising_le : ∀ (ss : List Str) (p : Str), risingS p ss = true → (p :: ss).Pairwise fun a b => ¬ (b.cps.toList < a.cps.toList)
  | [], _, _ => by simp
  | x :: r, p, h => by
    have h' : (!PySem.Spec.ltCps x.cps.toList p.cps.toList && risingS x r) = true := h
    rw [ltCps_eq] at h'
    simp only [Bool.and_eq_true, Bool.not_eq_true', decide_eq_false_iff_not] at h'
    have ih := rising_le r x h'.2
    refine List.pairwise_cons.mpr ⟨fun y hy => ?_, ih⟩
    rcases List.mem_cons.mp hy with rfl | hy
    · exact h'.1
    · exact le_tr h'.1 ((List.pairwise_cons.mp ih).1 y hy)
theorem sorted_le {ss : List Str} (h : sortedS ss = true) : ss.Pairwise fun a b => ¬ (b.cps.toList < a.cps.toList) := by
  cases ss with
  | nil => exact .nil
  | cons x r => exact rising_le r x h
theorem cps_ne {a b : Str} (h : a ≠ b) : a.cps.toList ≠ b.cps.toList := fun e => h (by
  obtain ⟨x⟩ := a
  obtain ⟨y⟩ := b
  have : x = y := Array.toList_inj.mp e
  rw [this])
theorem lt_of_not {a b : Str} (h : ¬ (b.cps.toList < a.cps.toList)) (hne : a ≠ b) : ltS a b := by
  have h' : a.cps.toList ≤ b.cps.toList := h
  rcases List.le_iff_lt_or_eq.mp h' with h1 | h1
  · exact h1
  · exact absurd h1 (cps_ne hne)
theorem inc_of_sorted {ss : List Str} (h : sortedS ss = true) (hn : ss.Nodup) : Inc ss :=
  ((sorted_le h).and hn).imp fun ⟨h1, h2⟩ => lt_of_not h1 h2
theorem inc_nodup {ss : List Str} (h : Inc ss) : ss.Nodup := h.imp fun h => ltS_ne h
theorem inc_same {a b : List Str} (hp : a.Perm b) (ha : Inc a) (hb : Inc b) : a = b :=
  hp.eq_of_pairwise (fun x y _ _ h1 h2 => absurd (List.lt_trans h1 h2) (List.lt_irrefl _)) ha hb
end Mine
namespace Mine
theorem newsMoreF {h₀ h h' : Heap} {L : Addr} {m : Str → Option Value} {news tl : List (Addr × Obj)} (F : Fr h₀ L h m) (N : News h₀ L h' news) (hn : NewIn h h' tl) : News h₀ L h' (tl ++ news) := by
  intro p hp
  rcases List.mem_append.mp hp with hp | hp
  · refine ⟨(hn p hp).1, fun e => ?_, ?_⟩
    · obtain ⟨o, _, _, ho, _⟩ := F.ns
      have := (hn p hp).2
      rw [e, ho] at this; cases this
    · cases q : h₀.get? p.1 with
      | none => rfl
      | some o => have := (hn p hp).2; rw [F.keep _ _ q] at this; cases this
  · exact N p hp
theorem none_base {base g : Heap} (hbg : base.StaysIn g) {b : Addr} (e : g.get? b = none) : base.get? b = none := by
  cases q : base.get? b with
  | none => rfl
  | some o => rw [hbg b o q] at e; cases e
/-- what a call of sorted_list_difference wants, out of a frame with one frame above it -/
theorem sldIn {base g h : Heap} {L1 L0 l S : Addr} {o0 oN oS : Obj} {m : Str → Option Value} {led : List (Addr × Obj)} {env0 : Env} (hbg : base.StaysIn g) (F : Fr g L1 h m) (N : News g L1 h led) (m0 : (L0, o0) ∈ led) (m1 : (l, oN) ∈ led) (m2 : (S, oS) ∈ led)
    (F0 : TI.Frs [env0] [(L0, o0)]) :
    ∃ o1, h.get? L1 = some o1 ∧ base.StaysIn h ∧ (∀ env1 : Env, env1.frame = some L1 → env1.scope.kind = .function → TI.Frs [env1, env0] [(L1, o1), (L0, o0)]) ∧ (∀ p ∈ [(l, oN), (S, oS), (L1, o1), (L0, o0)], h.get? p.1 = some p.2) ∧ (∀ p ∈ [(l, oN), (S, oS), (L1, o1), (L0, o0)], base.get? p.1 = none) := by
  obtain ⟨o1, es, ep, hL, hLd, _⟩ := F.ns
  refine ⟨o1, hL, fun b o e => F.keep b o (hbg b o e), fun env1 hf hk => ⟨by rw [hk]; decide, hf, ⟨_, _, hLd⟩, F0⟩, fun p hp => ?_, fun p hp => ?_⟩
  · simp only [List.mem_cons, List.not_mem_nil, or_false] at hp
    rcases hp with rfl | rfl | rfl | rfl
    · exact (N _ m1).1
    · exact (N _ m2).1
    · exact hL
    · exact (N _ m0).1
  · simp only [List.mem_cons, List.not_mem_nil, or_false] at hp
    rcases hp with rfl | rfl | rfl | rfl
    · exact none_base hbg (N _ m1).2.2
    · exact none_base hbg (N _ m2).2.2
    · exact none_base hbg (Heap.get?_none_of_le F.above)
    · exact none_base hbg (N _ m0).2.2
theorem leftOf {xs ys ss : List Str} {p : Nat} (h : ss.Perm (ys.take p)) : xs.filter (fun x => decide (x ∉ ss)) = xs.filter (fun x => decide (x ∉ ys.take p)) := by
  refine List.filter_congr fun x _ => ?_
  simp only [h.mem_iff]
theorem left_perm {xs ys : List Str} {p : Nat} (hp : ys.Perm xs) (hx : Inc xs) : (xs.filter fun x => decide (x ∉ ys.take p)).Perm (ys.drop p) := by
  have hn : ys.Nodup := hp.nodup_iff.mpr (inc_nodup hx)
  refine (hp.symm.filter _).trans ?_
  have e : ys = ys.take p ++ ys.drop p := (List.take_append_drop p ys).symm
  have hd : (ys.take p ++ ys.drop p).Nodup := by rw [← e]; exact hn
  have h1 : (ys.filter fun x => decide (x ∉ ys.take p)) = ys.drop p := by
    conv => lhs; arg 2; rw [e]
    rw [List.filter_append, List.filter_eq_nil_iff.mpr (by intro a ha; simpa using ha), List.nil_append]
    refine List.filter_eq_self.mpr fun a ha => ?_
    have := (List.nodup_append.mp hd).2.2
    simp only [decide_eq_true_eq]
    intro hm
    exact this a hm a ha rfl
  rw [h1]
theorem left_inc {xs ys : List Str} {p : Nat} (hx : Inc xs) : Inc (xs.filter fun x => decide (x ∉ ys.take p)) := List.Pairwise.filter _ hx
end Mine
end
section
open PySem PySem.W PyProof.Rows PySem.Calls
set_option Elab.async false
set_option maxRecDepth 100000
namespace Mine
theorem cmp3_one {y o : Str} : (cmp3 y o = 1) ↔ (o.cps.toList < y.cps.toList) := by
  unfold cmp3
  by_cases h : o.cps.toList < y.cps.toList
  · have h2 : ¬ (y.cps.toList < o.cps.toList) := fun h3 => absurd (List.lt_trans h h3) (List.lt_irrefl _)
    simp [h, h2, b2i]
  · by_cases h2 : y.cps.toList < o.cps.toList <;> simp [h, h2, b2i]
theorem cnt_before {LF rest : List Str} {y : Str} (h : LF.Perm (y :: rest)) : List.count 1 (rest.map fun o => cmp3 y o) = (LF.filter fun o => decide (o.cps.toList < y.cps.toList)).length := by
  rw [(h.filter _).length_eq, List.filter_cons_of_neg (by simpa using List.lt_irrefl y.cps.toList)]
  clear h
  induction rest with
  | nil => rfl
  | cons x r ih =>
    by_cases hx : x.cps.toList < y.cps.toList
    · rw [List.map_cons, List.filter_cons_of_pos (by simpa using hx), List.length_cons, cmp3_one.mpr hx, List.count_cons_self, ih]
    · rw [List.map_cons, List.filter_cons_of_neg (by simpa using hx), List.count_cons_of_ne (fun e => hx (cmp3_one.mp (by first | exact e | exact e.symm))), ih]
end Mine
end
section
open PySem PySem.W PyProof.Rows PySem.Calls
set_option Elab.async false
set_option maxRecDepth 100000
set_option maxHeartbeats 4000000
namespace Mine
def cntLt (l : List Str) (x : Str) : Nat := (l.filter fun o => decide (o.cps.toList < x.cps.toList)).length
def rk (xs ys : List Str) : Nat → Nat
  | 0 => 0
  | p + 1 => rk xs ys p * (xs.length - p) + cntLt (xs.filter fun x => decide (x ∉ ys.take p)) (ys.getD p default)
theorem addCons {prog : Program} {w : World} {A : Around} {E : Value → Shared → Prop} {s : Shared} {h₀ : Heap} {L a b : Addr} {m : Str → Option Value} {news : List (Addr × Obj)} {x : Value} {vs : List Value} {n n2 : Nat} {Q : Value → Shared → Prop}
    (F : Fr h₀ L s.heap m) (N : News h₀ L s.heap news) (ha : (a, listOf #[x] n) ∈ news) (hb : (b, listOf vs.toArray n2) ∈ news) (hsz : vs.length ≤ 100)
    (h : ∀ D h', Fr h₀ L h' m → News h₀ L h' ((D, listOf (x :: vs).toArray 0) :: news) → (∀ p ∈ news, p.1 < D) → Q (.ref D) { s with heap := h' }) :
    wpAny (model prog w) A (binaryOp .Add (.ref a) (.ref b)) Q E s :=
  kmk_add_lit F N ⟨_, (N _ ha).1, rfl, n, rfl⟩ ⟨_, (N _ hb).1, rfl, n2, rfl⟩ (by simp) h (by rw [sizeLine_eq]; simp; omega)
def Lt4 (a b c d r : Nat) : Prop := a < r ∧ b < r ∧ c < r ∧ d < r
theorem rngOf {n : Nat} (h : n ≤ 5) : Builtin.Range.small 0 (n : Int) 1 = true ∧ Builtin.Range.rangeSize 0 (n : Int) 1 = (n : Int) := by
  rcases n with _ | _ | _ | _ | _ | _ | n
  all_goals first | (exfalso; omega) | exact ⟨by decide +kernel, by decide +kernel⟩
structure RqSt where
  i : Nat
  t : Tok
  op : Obj
  sl : Array (Option Value)
structure RdSt where
  k : Nat
  r : Addr
  rv : List Value
  c : Nat
  t : Tok
  oc : Obj
theorem c_read {w : World} {mean : ExcName → Option Value} {mg mb : Str → Option Value} {dp un : Nat} {gd : Option (List Code)} {base : Heap} {s : Shared} {E Q : Value → Shared → Prop} {env0 : Env} {L0 : Addr} {o0 : Obj} {l : Addr} {c : Nat} {t : Tok} {vs : List Value} {xs ys : List Str} {pth : Nat → Str}
    (law : PySem.Challenge.rw_il0057_01 = PySem.Challenge.rw_il0057_01) (XB : (hd0.heap_1 w.params).In base) (TB : Top VW LS mean mg mb base) (hb : base.StaysIn s.heap) (hdp : dp + 8 < recursionLimit) (hun : un + 80 < cLine)
    (F0 : TI.Frs [env0] [(L0, o0)]) (hN : ∀ p ∈ [(l, listOf vs.toArray c), (L0, o0)], s.heap.get? p.1 = some p.2) (hN0 : ∀ p ∈ [(l, listOf vs.toArray c), (L0, o0)], base.get? p.1 = none)
    (hS : StrsAre vs xs) (hx : xs.length ≤ 5) (hne : 0 < xs.length) (hxs : Inc xs) (hok : ∀ x ∈ xs, PyData.strOk x = true) (hp : ys.Perm xs) (hp0 : pth 0 = Str.ofString "/") (hps : ∀ k, ∀ y, ys[k]? = some y → headOf (pth (k + 1)) = pth k ∧ tailOf (pth (k + 1)) = y) (hpl : ∀ k, (pth k).length ≤ 1000)
    (hret : ∀ t h' tk, KeepsF [(L0, o0)] s.heap h' → Q (.int (rk xs ys xs.length : Nat) t) { s with heap := h', toks := tk }) :
    wpAny (model Challenge.rw_il0057_01.row.prog w) (ar dp un gd [env0]) (call (.ref 181) [.str (pth xs.length) t, .ref l]) Q E s := by
  k_with_none
  k_with "mine_pre" => (
      (have BQ := At.B (by assumption)); (have XQ := At.X (by assumption)); (have TQ := At.T (by assumption)); (have lQ := At.law (by assumption))
      revert XQ lQ; k_fill; intro XQ lQ; clear lQ
      refine wpAny_call ?_)
  k_with "mine_post" => (
      (case C => assumption); (case ho => k_dflt k_is); (case hcd => k_dflt k_is); (case hb => exact rfl); (case hl => exact locs rfl); (case c2 => exact rfl); (case c3 => exact rfl); (case c4 => exact rfl); (case c5 => decide)
      intro LQ1 h₁Q FQ1 NQ1
      (try dsimp only [List.reverse_cons, List.reverse_nil, List.nil_append, List.cons_append] at FQ1)
      (try dsimp only)
      (try k_fold))
  k_with "mine_postC" => (
      (case C => assumption); (case ho => k_dflt k_is); (case hcd => k_dflt k_is); (case hb => exact rfl); (case hl => exact rfl); (case hnd => decide +kernel); (case c2 => exact rfl); (case c3 => exact rfl); (case c4 => exact rfl)
      intro LQ1 h₁Q tkQ1 cellsQ1 FQ1 NQ1 YQ1
      k_cells YQ1
      (try simp only [List.cons_append, List.nil_append] at NQ1)
      (try dsimp only)
      (try k_fold))
  k_with "mine_preL" => (
      (have BQ := At.B (by assumption)); (have XQ := At.X (by assumption)); (have TQ := At.T (by assumption)); (have lQ := At.law (by assumption))
      revert XQ lQ; k_fill; intro XQ lQ; clear lQ
      refine wpAny_call ?_)
  k_with "mine_postL" => (
      (case C => assumption); (case hN => assumption); (case ho => k_dflt k_is); (case hcd => k_dflt k_is); (case hb => exact rfl); (case hl => exact locs rfl); (case c2 => exact rfl); (case c3 => exact rfl); (case c4 => exact rfl); (case c5 => decide)
      intro LQ1 h₁Q FQ1 NQ1 l1Q1
      k_lt l1Q1
      (try dsimp only [List.reverse_cons, List.reverse_nil, List.nil_append, List.cons_append] at FQ1)
      generalize hid _ _ = gQ at *
      (try dsimp only)
      (try k_fold))
  k_with "mine_postLC" => (
      (case C => assumption); (case hN => assumption); (case ho => k_dflt k_is); (case hcd => k_dflt k_is); (case hb => exact rfl); (case hl => exact rfl); (case hnd => decide +kernel); (case c2 => exact rfl); (case c3 => exact rfl); (case c4 => exact rfl)
      intro LQ1 h₁Q tkQ1 cellsQ1 FQ1 NQ1 YQ1 l1Q1
      k_lt l1Q1
      k_cells YQ1
      (try simp only [List.cons_append, List.nil_append] at NQ1)
      generalize hid _ _ = gQ at *
      (try dsimp only)
      (try k_fold))
  k_with "mine_room" => (refine At.less (At.push (by assumption) (by k_asm) rfl rfl) (by decide))
  k_with "mine_back" => (intro hQ1 tkQ1 hkQ1; (rename Fr _ _ _ _ => F9Q); (rename News _ _ _ _ => N9Q); (have FQ1 := Fr.after F9Q hkQ1); (have NQ1 := newsKeep N9Q hkQ1); clear hkQ1; (try k_sweep); (try dsimp only))
  k_with "call ref" => (k_here; (with_reducible show wpAny _ _ (call (Value.ref 94) [Value.str _ _]) _ _ _); k_dflt (refine' c_fspath ?C ?_; (case C => walk_at "mine_room"); k_whole); intro tQ1; walk_at "mine_back")
  k_with "call ref" => (k_here; (with_reducible show wpAny _ _ (call (Value.ref 108) [Value.str _ _]) _ _ _); k_dflt (refine' c_get_sep ?C ?_; (case C => walk_at "mine_room"); k_whole); intro tQ1; walk_at "mine_back")
  k_with "mine_room" => ((with_reducible rename Fr _ _ _ _ => F9Q); (with_reducible rename News _ _ _ _ => N9Q); (refine' At.here rfl ?xb ?tb ?hb F9Q N9Q ?m ?f0 rfl rfl ?d ?u); (case hb => assumption); (case f0 => assumption); (case m => k_mem); (case xb => assumption); (case tb => assumption); (case d => (show _ + _ < _; dsimp only [ar]; omega)); (case u => (show _ + _ < _; dsimp only [ar]; omega)))
  k_with "exec For Name Name cons nil" => refine Hold.out ?_
  k_with "exec For Name Call cons nil" => refine Hold.out ?_
  k_with "call ref" => (k_here; (with_reducible show wpAny _ _ (call (Value.ref 122) [Value.str _ _]) _ _ _); k_dflt (refine' c_split ?C ?z ?_; (case C => walk_at "mine_room"); (case z => assumption)); intro DQ1 t1Q1 t2Q1 hQ1 tkQ1 hkQ1 hnQ1; walk_at "mine_new")
  k_with "mine_new" => ((rename Fr _ _ _ _ => F9Q); (rename News _ _ _ _ => N9Q); (rename Keeps _ _ => hk9Q); (rename NewIn _ _ _ => hn9Q); (have FQ1 := Fr.after F9Q hk9Q); (have neQ1 := neN hn9Q (List.mem_cons_self ..) N9Q); (have NQ1 := newsMore F9Q N9Q hk9Q hn9Q); clear F9Q N9Q hk9Q hn9Q; (simp only [NeN, and_true] at neQ1); (simp only [List.cons_append, List.nil_append] at NQ1))
  k_with "binaryOp Add ref ref" => (k_here; k_dflt (refine' addCons ?F ?N ?a ?b ?z ?_; (case F => k_asm); (case N => k_asm); (case a => k_mem); (case b => k_mem); (case z => omega)); intro DQ1 hQ1 FQ1 NQ1 l1Q; (try k_lt l1Q); (try k_sweep))
  k_with "call builtin:len" => (k_here; (with_reducible show wpAny _ _ (call (Value.builtin "len") [Value.ref _]) _ _ _); (with_unfolding_all refine' len_list (items := _) ?k1 ?k2 ?_; (case k1 => exact lstAt (by k_asm) (by k_mem)); (case k2 => ((simp only [List.size_toArray, List.length_cons]); omega)); k_whole; (try simp only [List.size_toArray, List.length_cons])))
  k_with "subscriptTail Name Slice ref ref" => (k_here; (with_reducible show wpAny _ _ (subscriptTail _ (Expr.Slice (some _) none none _) (Value.ref _) (Value.ref _)) _ _ _); (with_reducible rename Fr _ _ _ _ => F9Q); (with_reducible rename News _ _ _ _ => N9Q); (with_unfolding_all refine' sliceFrom (s := ⟨_, _, _, _, _⟩) F9Q N9Q ?m ?h0 rfl ?_ ?h1 ?h2 ?h3; (case m => k_mem); (case h0 => omega); (case h1 => with_unfolding_all rfl); (case h2 => (intro _; with_unfolding_all rfl)); (case h3 => omega)); clear F9Q N9Q; intro DQ1 hQ1 FQ1 NQ1 l1Q; (try k_lt l1Q))
  k_with "subscriptTail Name Slice ref ref" => (k_here; (with_reducible show wpAny _ _ (subscriptTail _ (Expr.Slice none (some _) none _) (Value.ref _) (Value.ref _)) _ _ _); (with_reducible rename Fr _ _ _ _ => F9Q); (with_reducible rename News _ _ _ _ => N9Q); (with_unfolding_all refine' sliceTo (s := ⟨_, _, _, _, _⟩) F9Q N9Q ?m ?h0 ?_ ?h1 ?h2 ?h3; (case m => k_mem); (case h0 => omega); (case h1 => with_unfolding_all rfl); (case h2 => (intro _; with_unfolding_all rfl)); (case h3 => omega)); clear F9Q N9Q; intro DQ1 hQ1 FQ1 NQ1 l1Q; (try k_lt l1Q))
  k_with "subscriptTail Name Name ref int" => (k_here; (with_reducible show wpAny _ _ (subscriptTail _ _ (Value.ref _) (Value.int _ _)) _ _ _); (with_unfolding_all refine' itemAt ?k1 ?k2 ?k3 ?k4 ?_ ?k6; (case k1 => exact lstAt (by k_asm) (by k_mem)); (case k4 => assumption); (case k2 => omega); (case k3 => omega); (case k6 => with_unfolding_all rfl); k_whole))
  k_with "compareOp NotEq ref ref" => refine Hold.out ?_
  k_with "call ref" => (k_here; (with_reducible show wpAny _ _ (call (Value.ref 155) [Value.str _ _, Value.str _ _]) _ _ _); k_dflt (refine' c_three ?C ?_; (case C => walk_at "mine_room"); k_whole); intro tQ1; walk_at "mine_back")
  k_with "CompEnd" => refine Hold.out ?_
  k_with "call builtin:sorted" => refine Hold.out ?_
  k_with "pyIter ref" => refine Hold.out ?_
  k_with "CompSrc" => refine Hold.out ?_
  k_with "CompSrcT" => refine Hold.out ?_
  have X := XB.keeps (hid_stays hb hN0)
  have T := TB.keeps (hid_stays hb hN0)
  have hbg := hid_stays hb hN0
  revert X law; k_fill; intro law X; clear law
  have hK := fun h' => @hidF_keeps s.heap h' [(l, listOf vs.toArray c)] [(L0, o0)] hN
  simp only [List.cons_append, List.nil_append] at hK
  refine wpAny_call ?_
  refine' enterGC (binds := [(Str.ofString "way", .str (pth xs.length) t), (Str.ofString "names", .ref l)]) X T (by omega) hN ?ho ?hcd ?hb ?hl ?hnd ?_ ?c2 ?c3 ?c4
  (case ho => k_dflt k_is); (case hcd => k_dflt k_is); (case hb => exact rfl); (case hl => exact rfl); (case hnd => decide +kernel); (case c2 => exact rfl); (case c3 => exact rfl); (case c4 => exact rfl)
  intro L' h₁ tk' cells' F' N' Y' l1'
  k_lt l1'
  k_cells Y'
  (try simp only [List.cons_append, List.nil_append] at N')
  generalize hid _ _ = g at *
  (try dsimp only)
  (try k_fold)
  have hvl := hS.length
  k_steps
  have hyl : ys.length = xs.length := hp.length_eq
  have hlL0 : @Ne Nat l L0 := by
    intro e
    have h1 := hN _ (List.mem_cons_self ..)
    have h2 := hN (L0, o0) (by simp)
    obtain ⟨_, _, ⟨es, ep, hd0⟩, _⟩ := F0
    rw [show l = L0 from e] at h1
    have h3 : some (listOf vs.toArray c) = some o0 := h1.symm.trans h2
    rw [← Option.some.inj h3] at hd0
    cases hd0
  refine Hold.into ?_
  refine wpAny_For ?_
  k_steps
  refine Hold.into ?_
  (rename Fr _ _ _ _ => F9); (rename News _ _ _ _ => N9)
  rename_i op o2 dd1 dd2 h1 r0 h2 l1 h3 oc d1
  refine forList (KJ (fun c' : RdSt => [(c'.r, listOf c'.rv.toArray c'.c), (L' + 1 + 1, op), (L' + 1, c'.oc), (l, listOf vs.toArray c), (L0, o0)]) (fun c => [(Str.ofString "rest", .str (pth c.k) c.t)]) (fun c => (c.oc.data = .cell (some (.ref c.r)) ∧ StrsAre c.rv (ys.drop c.k)) ∧ Lt4 (L' + 1 + 1) (L' + 1) l L0 c.r) [Str.ofString "name", Str.ofString "tail"] _ (fun i c => c.k + i = xs.length))
    rfl (by k_mem) F9 N9 (kj_start (⟨xs.length, r0, [], 0, t, oc⟩ : RdSt) ⟨⟨d1, by rw [← hyl, List.drop_length]; exact .nil⟩, l1⟩ (by intro p hp; rw [List.mem_singleton.mp hp]; exact rfl) (by simp)) ?turn ?done (by passes_own)
  case turn =>
    intro i v m₁ news₁ h tk I oI hv hlI hJ hm F1 N1 ne1
    obtain ⟨c', e', ⟨⟨hd1, hs1⟩, hr1⟩, hP, F2⟩ := kj_open hJ F1
    subst e'
    obtain ⟨k, r, rv, cc, tt, oc'⟩ := c'
    dsimp only at *
    unfold Lt4 at hr1
    simp only [kstB] at F2
    clear F1 hJ F9 N9
    replace F2 : Fr g L' _ _ := F2
    replace N1 : News g L' _ _ := N1
    k_lt hlI
    have neI : @Ne Nat r I := ne1 (r, _) (by k_mem)
    have hiv : i < vs.length := by have := List.getElem?_eq_some_iff.mp hv; exact this.1
    obtain ⟨k, rfl⟩ : ∃ k', k = k' + 1 := ⟨k - 1, by omega⟩
    have hky : ys[k]? = some (ys.getD k default) := by rw [List.getD_eq_getElem?_getD, List.getElem?_eq_getElem (by omega)]; rfl
    generalize hy : ys.getD k default = y at hky
    obtain ⟨hsp1, hsp2⟩ := hps k y hky
    have hsz : (pth (k + 1)).length ≤ 1000000 := Nat.le_trans (hpl _) (by decide)
    obtain ⟨x, tx, hx1⟩ : ∃ x tx, v = .str x tx := by
      obtain ⟨tx, e⟩ := hS.get i (xs.getD i default) (by rw [List.getD_eq_getElem?_getD, List.getElem?_eq_getElem (by omega)]; rfl)
      rw [hv] at e
      exact ⟨_, _, Option.some.inj e⟩
    subst hx1
    have hrl := hs1.length
    rw [List.length_drop] at hrl
    k_steps
    (rename Fr _ _ _ _ => F9); (rename News _ _ _ _ => N9)
    rename_i oc9 d9
    have hky2 : ys.drop k = y :: ys.drop (k + 1) := by rw [List.drop_eq_getElem_cons (by omega)]; congr 1; exact Option.some.inj ((List.getElem?_eq_getElem _).symm.trans hky)
    refine kj_end (⟨k, DQ1, .str (tailOf (pth (k + 1))) t2Q1 :: rv, 0, t1Q1, oc9⟩ : RdSt) F9 N9 (by k_mem) ?hs ?ne ?hq ?hf ?hk ?hr ?hp
    case hs => (dsimp only; repeat (first | exact List.forall_mem_nil _ | (refine List.forall_mem_cons.mpr ⟨by k_mem, ?_⟩)))
    case ne => (dsimp only; k_all)
    case hq => intro q hq; rw [List.mem_singleton.mp hq]; k_mem
    case hf => exact ⟨⟨d9, by rw [hky2, hsp2]; exact .cons _ _ hs1⟩, by unfold Lt4; dsimp only; omega⟩
    case hk => intro p hp; rw [List.mem_singleton.mp hp, ← hsp1]; exact rfl
    case hp => show k + (i + 1) = _; omega
    ksw_same
  case done =>
    intro m₁ news₁ h tk hJ F1 N1
    obtain ⟨c', e', ⟨⟨hd1, hs1⟩, hr1⟩, hP, F2⟩ := kj_open hJ F1
    subst e'
    obtain ⟨k, r, rv, cc, tt, oc'⟩ := c'
    dsimp only at *
    unfold Lt4 at hr1
    simp only [kstB] at F2
    clear F1 hJ F9 N9
    replace F2 : Fr g L' _ _ := F2
    replace N1 : News g L' _ _ := N1
    obtain rfl : k = 0 := by omega
    rw [List.drop_zero] at hs1
    rw [hp0] at F2
    have hrl := hs1.length
    k_steps
    refine Hold.into ?_
    refine wpAny_For ?_
    k_steps
    refine Hold.into ?_
    (rename Fr _ _ _ _ => F9); (rename News _ _ _ _ => N9); (rename IsRange _ _ _ _ _ _ _ _ => R9)
    obtain ⟨op0, hop0⟩ : ∃ v, op.data = .cell v := ⟨_, dd1⟩
    refine forRange (n := rv.length) (KJ (fun c' : RqSt => [(r, listOf rv.toArray cc), (L' + 1 + 1, c'.op), (L' + 1, oc'), (l, listOf vs.toArray c), (L0, { o0 with slots := c'.sl })]) (fun c => [(Str.ofString "number", .int (rk xs ys c.i : Nat) c.t)]) (fun c => ∃ v, c.op.data = .cell v) [Str.ofString "left", Str.ofString "strange", Str.ofString "before"] _ (fun i c => c.i = i))
      rfl R9 (rngOf (by omega)).1 (rngOf (by omega)).2 F9 N9 (kj_start (⟨0, _, op, o0.slots⟩ : RqSt) ⟨_, hop0⟩ (by intro p hp; rw [List.mem_singleton.mp hp]; exact rfl) rfl) ?turn ?done (by passes_own)
    case turn =>
      intro i t1 m₁ news₁ h tk I oI hi hlI hJ F1 N1 ne1
      obtain ⟨c', e', ⟨v0, hd2⟩, hP, F2⟩ := kj_open hJ F1
      subst e'
      obtain ⟨i', tn, op2, sl⟩ := c'
      dsimp only at *
      subst hP
      simp only [kstB] at F2
      clear F1 hJ F9 N9
      replace F2 : Fr g L' _ _ := F2
      replace N1 : News g L' _ _ := N1
      k_lt hlI
      rw [Int.zero_add]
      k_steps
      refine Hold.into ?_
      (rename Fr _ _ _ _ => F3); (rename News _ _ _ _ => N3)
      simp only [Int.toNat_natCast] at N3
      have hyn : ys.Nodup := hp.nodup_iff.mpr (inc_nodup hxs)
      have htl : (rv.take i').length ≤ 5 := by rw [List.length_take]; omega
      refine sortStrs F3 N3 (by k_mem) (strsTake hs1 i') (by omega) ?_
      intro S cS us ss h4 F4 N4 lS hU hperm hsort
      k_lt lS
      have hssn : ss.Nodup := hperm.nodup_iff.mpr (hyn.sublist (List.take_sublist _ _))
      have hssl : ss.length ≤ 5 := by rw [hperm.length_eq, List.length_take]; omega
      have hssi : Inc ss := inc_of_sorted hsort hssn
      clear F3 N3
      k_steps
      (rename Fr _ _ _ _ => F5); (rename News _ _ _ _ => N5)
      obtain ⟨o1, hL1, hb5, Fs5, hN5, hN50⟩ := sldIn (o0 := { o0 with slots := sl }) hbg F5 N5 (by k_mem) (show (l, listOf vs.toArray c) ∈ _ by k_mem) (show (S, listOf us.toArray cS) ∈ _ by k_mem) F0
      refine' c_sld rfl XB TB hb5 ?hd ?fs hN5 hN50 hS hx hU hssl hxs hssi (fun y hy => hp.mem_iff.mp (List.mem_of_mem_take (hperm.mem_iff.mp hy))) hne ?_
      case hd => show dp + 1 < _; omega
      case fs => exact Fs5 _ rfl rfl
      intro D mi ua ms e1 e2 h6 tk6 K6 hn6 hms
      obtain ⟨sl6, F6, N6⟩ := afterF (led := [_, _, _, _, _, _, _]) F5 N5 hL1 (by k_all) K6
      have N7 := newsMoreF F5 N6 hn6
      simp only [List.cons_append, List.nil_append] at N7
      rw [leftOf hperm] at hms
      clear N6 N5 F5 hN5 hN50 Fs5 K6 hn6
      have F07 : TI.Frs [env0] [(L0, Obj.mk o0.cls o0.dict o0.data sl6)] := F0
      clear F0
      have hml := hms.length
      have hll : ms.length ≤ 5 := by rw [hml]; exact Nat.le_trans (List.length_filter_le _ _) hx
      generalize hLF : (xs.filter fun x => decide (x ∉ ys.take i')) = LF at *
      have hyi : ys[i']? = some (ys.getD i' default) := by rw [List.getD_eq_getElem?_getD, List.getElem?_eq_getElem (by omega)]; rfl
      generalize hy : ys.getD i' default = y at hyi
      obtain ⟨ty, hri⟩ := hs1.get i' y hyi
      rw [show i' = (i' : Int).toNat from (Int.toNat_natCast _).symm] at hri
      k_steps
      refine Hold.into ?_
      (rename Fr _ _ _ _ => F9); (rename News _ _ _ _ => N9)
      refine LCt.CompSrcT.ledger rfl F9 N9 (show (mi, _) ∈ _ by k_mem) (by rw [List.size_toArray, sizeLine_eq]; omega) fun gg => ?_
      refine crT (fun i zs => StrsAre zs ((LF.take i).filter fun o => decide (o.cps.toList < y.cps.toList))) (by simpa using StrsAre.nil) ?turn1 ?fin1
      case turn1 =>
        intro j v It oI C oC Dc m₂ zs h tk E' hj hv hz hC hx' Fc Nc off nec
        have off0 := off
        (try simp only [LCg.Off3, and_true] at off)
        have hv' : ms[j]? = some v := by simpa using hv
        have hjl : j < LF.length := by rw [← hms.length]; simpa using hj
        obtain ⟨x, hxj, tx, rfl⟩ : ∃ x, LF[j]? = some x ∧ ∃ tx, v = .str x tx := by
          obtain ⟨tx, e⟩ := hms.get j LF[j] (List.getElem?_eq_getElem hjl)
          rw [hv'] at e
          exact ⟨_, List.getElem?_eq_getElem hjl, tx, Option.some.inj e⟩
        have hjt : LF.take (j + 1) = LF.take j ++ [x] := by rw [List.take_add_one, hxj]; rfl
        k_steps
        · refine Hold.into ?_
          (rename Fr _ _ _ _ => F9); (rename News _ _ _ _ => N9)
          refine LCg.CompEnd.intro F9 N9 _ (fun p hp => hp) off0 (.inr ⟨_, show (mi, _) ∈ _ by k_mem, rfl, _, rfl⟩) ⟨rfl, ?_⟩
          rw [hjt, List.filter_append, List.filter_cons_of_pos (by simpa using ‹x.cps.toList < y.cps.toList›)]
          exact hz.append' (.cons _ _ .nil)
        · refine Hold.into ?_
          (rename Fr _ _ _ _ => F9); (rename News _ _ _ _ => N9)
          refine LCg.CompEnd.intro F9 N9 _ (fun p hp => hp) off0 (.inr ⟨_, show (mi, _) ∈ _ by k_mem, rfl, _, rfl⟩) ⟨rfl, ?_⟩
          rw [hjt, List.filter_append, List.filter_cons_of_neg (by simpa using ‹¬ x.cps.toList < y.cps.toList›)]
          simpa using hz
      case fin1 =>
        intro zs hz
        rw [List.size_toArray, hms.length, List.take_length] at hz
        clear F9 N9
        have hzl := hz.length
        have hzl5 : zs.length ≤ 5 := by rw [hzl]; exact Nat.le_trans (List.length_filter_le _ _) (by rw [← hms.length]; exact hll)
        k_steps
        refine Hold.into ?_
        (rename Fr _ _ _ _ => F3); (rename News _ _ _ _ => N3)
        simp only [Int.toNat_natCast] at N3
        have htl2 : (rv.drop i').length ≤ 5 := by rw [List.length_drop]; omega
        refine sortStrs F3 N3 (by k_mem) (strsDrop hs1 i') (by omega) ?_
        intro S2 cS2 us2 ss2 h8 F8 N8 lS2 hU2 hperm2 hsort2
        k_lt lS2
        have hdn : (ys.drop i').Nodup := hyn.sublist (List.drop_sublist _ _)
        have hLi : Inc LF := by rw [← hLF]; exact left_inc hxs
        have hLp : LF.Perm (ys.drop i') := by rw [← hLF]; exact left_perm hp hxs
        have hss2 : ss2 = LF := inc_same (hperm2.trans hLp.symm) (inc_of_sorted hsort2 (hperm2.nodup_iff.mpr hdn)) hLi
        subst hss2
        have hokL : ∀ x ∈ ss2, PyData.strOk x = true := fun x hx => hok x (by rw [← hLF] at hx; exact (List.mem_filter.mp hx).1)
        clear F3 N3
        k_steps
        refine Hold.into ?_
        (rename Fr _ _ _ _ => F3); (rename News _ _ _ _ => N3)
        refine neStrs (lstAt N3 (show (mi, _) ∈ _ by k_mem)) (lstAt N3 (show (S2, _) ∈ _ by k_mem)) hms hU2 hokL hokL (by show un + 3 + 64 < _; omega) ?_
        rw [decide_eq_true rfl, Bool.not_true]
        k_steps
        refine Hold.into ?_
        (rename Fr _ _ _ _ => F9); (rename News _ _ _ _ => N9)
        simp only [show ((i' : Int) + 1).toNat = i' + 1 by omega] at N9
        have hsd := strsDrop hs1 (i' + 1)
        have hdl2 : (rv.drop (i' + 1)).length ≤ 5 := by rw [List.length_drop]; omega
        refine LCg.CompSrc.ledger (its := (rv.drop (i' + 1)).toArray) (k := 0) rfl F9 N9 (List.mem_cons_self ..) (by rw [List.size_toArray, sizeLine_eq]; omega) fun gg => ?_
        refine crU (fun i zs => IntsAre zs (((ys.drop (i' + 1)).take i).map fun o => cmp3 y o)) (by simpa using IntsAre.nil) ?turn2 ?fin2
        case turn2 =>
          intro j v It oI C oC Dc m₂ zs h tk E' hj hv hz C9 hx' Fc Nc off nec
          have hv' : (rv.drop (i' + 1))[j]? = some v := by simpa using hv
          have hjl : j < (ys.drop (i' + 1)).length := by rw [← hsd.length]; simpa using hj
          obtain ⟨x, hxj, tx, rfl⟩ : ∃ x, (ys.drop (i' + 1))[j]? = some x ∧ ∃ tx, v = .str x tx := by
            obtain ⟨tx, e⟩ := hsd.get j _ (List.getElem?_eq_getElem hjl)
            rw [hv'] at e
            exact ⟨_, List.getElem?_eq_getElem hjl, tx, Option.some.inj e⟩
          have off0 := off
          (try simp only [LCg.Off3, and_true] at off)
          have hjt : (ys.drop (i' + 1)).take (j + 1) = (ys.drop (i' + 1)).take j ++ [x] := by rw [List.take_add_one, hxj]; rfl
          k_steps
          refine Hold.into ?_
          (rename Fr _ _ _ _ => F9); (rename News _ _ _ _ => N9)
          refine LCg.CompEnd.intro F9 N9 _ (fun p hp => hp) off0 (.inr ⟨_, List.mem_cons_self .., rfl, _, rfl⟩) ⟨rfl, ?_⟩
          rw [hjt, List.map_append]
          exact hz.append (.cons _ _ .nil)
        case fin2 =>
          intro zs2 hz2
          rw [List.size_toArray, hsd.length, List.take_length] at hz2
          clear F9 N9
          have hdy : ys.drop i' = y :: ys.drop (i' + 1) := by rw [List.drop_eq_getElem_cons (by omega)]; congr 1; exact Option.some.inj ((List.getElem?_eq_getElem _).symm.trans hyi)
          rw [hdy] at hLp
          have hcnt : ((List.count 1 ((ys.drop (i' + 1)).map fun o => cmp3 y o) : Nat) : Int) = (zs.length : Int) := by rw [cnt_before hLp, hzl]
          have hrk : ((rk xs ys (i' + 1) : Nat) : Int) = (rk xs ys i' : Nat) * ((rv.length : Int) - (i' : Int)) + (zs.length : Int) := by
            show ((rk xs ys i' * (xs.length - i') + cntLt (xs.filter fun x => decide (x ∉ ys.take i')) (ys.getD i' default) : Nat) : Int) = _
            rw [hLF, hy]
            unfold cntLt
            rw [← hzl, hrl, hyl, Int.natCast_add, Int.natCast_mul, Int.ofNat_sub (by omega)]
          k_steps
          all_goals try (exact absurd hcnt (by assumption))
          (rename Fr _ _ _ _ => F9); (rename News _ _ _ _ => N9); (rename (Obj.data _ = Data.cell (some (Value.int _ _))) => d9)
          rw [← hrk] at F9
          refine kj_end (⟨i' + 1, _, _, sl6⟩ : RqSt) F9 N9 (by k_mem) ?zhs ?zne ?zhq ⟨_, d9⟩ (by intro p hp; rw [List.mem_singleton.mp hp]; exact rfl) ?zhr rfl
          case zhs => (dsimp only; repeat (first | exact List.forall_mem_nil _ | (refine List.forall_mem_cons.mpr ⟨by k_mem, ?_⟩)))
          case zne => (dsimp only; k_all)
          case zhq => exact fun q hq => absurd hq (by simp)
          ksw_same
    case done =>
      intro m₁ news₁ h tk hJ F1 N1
      obtain ⟨c', e', ⟨v0, hd2⟩, hP, F2⟩ := kj_open hJ F1
      subst e'
      obtain ⟨i', tn, op2, sl⟩ := c'
      dsimp only at *
      subst hP
      simp only [kstB] at F2
      clear F1 hJ F9 N9
      replace F2 : Fr g L' _ _ := F2
      replace N1 : News g L' _ _ := N1
      k_steps
      (rename Fr _ _ _ _ => F9); (rename News _ _ _ _ => N9)
      rw [show rv.length = xs.length by omega]
      refine hret _ _ _ (hK _ F9.keep (fun p hp => ?_) (fun p hp => ?_))
      · rw [List.mem_singleton.mp hp]; exact (N9 (l, listOf vs.toArray c) (by k_mem)).1
      · rw [List.mem_singleton.mp hp]; exact ⟨_, (N9 (L0, Obj.mk o0.cls o0.dict o0.data sl) (by k_mem)).1⟩
end Mine
end
section
open PySem PySem.W PyProof.Rows PySem.Calls
set_option Elab.async false
set_option maxRecDepth 100000
set_option maxHeartbeats 4000000
namespace Mine
theorem wp_peek1 {α : Type} {K : Frag} {M : Model} {A : Around} {E : Value → Shared → Prop} {Q : α → Shared → Prop} {s : Shared} {o : Obj} {r : Addr → α} (X : K.In s.heap)
    (q : Q (r s.heap.objs.size) { s with heap := s.heap.push o }) : ∀ (t : Sem α) (g : Addr → Option α), peek1 K ⟨M.prog, M.w.params⟩ t = some (o, g) → (∀ D, g D = some (r D)) → wpAny M A t Q E s := by
  intro t
  induction t with
  | rule _ k ih => intro g e hg Γ p hΓ; exact ih () g e hg Γ p hΓ
  | point _ k ih => intro g e hg Γ p hΓ; exact ih () g e hg Γ p hΓ
  | ask k ih => intro g e hg Γ p hΓ; exact ih _ g e hg Γ p hΓ
  | load a _ k ih =>
    intro g e hg Γ p hΓ
    simp only [peek1] at e
    split at e
    · rename_i ob ho; exact ⟨ob, X _ _ ho, ih ob g e hg Γ p hΓ⟩
    · cases e
  | alloc ob k _ =>
    intro g e hg
    have e : some (ob, fun D => peek K ⟨M.prog, M.w.params⟩ (k D)) = some (o, g) := e
    obtain ⟨e1, e2⟩ := Prod.mk.inj (Option.some.inj e)
    subst e1
    subst e2
    have X' : K.In (s.heap.push ob) := X.keeps fun b x hb => Heap.get?_push_of_some _ hb
    show wpAny M A (alloc ob >>= k) Q E s
    refine wpAny_bind (wpAny_alloc ?_)
    exact (Looks.of_peek (M := M) (h := s.heap.push ob) X' (hg s.heap.objs.size)).here (s := { s with heap := s.heap.push ob }) q
  | _ => intro g e; cases e
theorem enterStar {n : Nat} {w : World} {mean : ExcName → Option Value} {mg mb : Str → Option Value} {dp un : Nat} {gd : Option (List Code)} {outs : List Env} {base : Heap} {s : Shared} {R : Result → Shared → Prop} {name : Str} {params : Arguments} {body : List Stmt} {scope : Scope} {pm cd doc oc : Value} {od : Option Addr} {osl : Array (Option Value)} {f : Addr} {args vs : List Value} {g₁ : Addr → Option (List (Str × Value))} {binds : Addr → List (Str × Value)}
    (C : At n w mean mg mb dp un gd outs base s.heap) (ho : (hd0.heap_1 w.params).lookup f = some ⟨oc, od, .func (docDef name params body scope pm cd doc), osl⟩) (hcd : codeIn (hd0.heap_1 w.params) cd name = true)
    (hp : peek1 (hd0.heap_1 w.params) ⟨PRG, w.params⟩ (bindArgs (docDef name params body scope pm cd doc) ⟨args, []⟩) = some (({ cls := .type "tuple", data := .seq vs.toArray } : Obj), g₁))
    (hg : ∀ D, g₁ D = some (binds D)) (hloc : ∀ D, ∀ y ∈ binds D, scope.names.lookup y.1 = some .local)
    (h : ∀ D L' h₁, Fr s.heap L' h₁ (fun y => (binds D).reverse.lookup y) → News s.heap L' h₁ [(D, ({ cls := .type "tuple", data := .seq vs.toArray } : Obj))] → 
      wpAny (model PRG w) ((ar dp un gd outs).deeper (envOf name scope L' f cd)) (execs body (envOf name scope L' f cd))
        (fun fl s' => R (.ok (.ret (match fl with | .ret v => v | _ => .none))) s')
        (fun e s' => wpAny (model PRG w) ((ar dp un gd outs).deeper (envOf name scope L' f cd)) (leaving (envOf name scope L' f cd) e) (fun _ s'' => R (.error e) s'') (fun e' s'' => R (.error e') s'') s')
        { s with heap := h₁, toks := s.toks + (binds D).length })
    (hco : scope.isCoroutine = false) (hgen : scope.isGenerator = false) (hk : scope.kind = .function)
    (hcell : ∀ x ∈ scope.names, x.2 ≠ .cell) : codeAny (model PRG w) (ar dp un gd outs) (.call (.ref f) ⟨args, []⟩) R s := by
  refine codeAny_call_function (by have := C.d; exact Nat.lt_of_le_of_lt (Nat.le_add_right _ _) this) (C.X _ _ ho) rfl hco hgen rfl (codeRec_of C.X hcd) ?_
  refine wp_peek1 C.X ?_ _ g₁ hp hg
  refine wpAny_newFunctionEnv hcell (hloc _) (fun h₁ hns hsb => ⟨(C.T.nolimit.keeps fun b o e => Heap.get?_push_of_some _ e).fresh _ hsb, codeAny_func ?_⟩) hk
  have hk₁ : ∀ b o, (s.heap.push ({ cls := .type "tuple", data := .seq vs.toArray } : Obj)).get? b = some o → h₁.get? b = some o := fun b o e => hsb.extBut b o (Nat.ne_of_lt (Heap.lt_size e)) (Heap.get?_push_of_some _ e)
  have hz : (s.heap.push ({ cls := .type "tuple", data := .seq vs.toArray } : Obj)).objs.size = s.heap.objs.size + 1 := Heap.size_push _ _
  refine h s.heap.objs.size _ h₁ ⟨hns, fun b o e => hk₁ b o (Heap.get?_push_of_some _ e), by rw [hz]; exact Nat.le_succ _⟩ (fun p hp => ?_)
  rw [List.mem_singleton.mp hp]
  exact ⟨hk₁ _ _ (Heap.get?_push_size _ rfl), by rw [hz]; exact Nat.ne_of_lt (Nat.lt_succ_self _), Heap.get?_none_of_le (Nat.le_refl _)⟩
theorem join_peek {K : Frag} {S : Setting} (vs : List Value) (h35 : vs.length = 3 ∨ vs.length = 4 ∨ vs.length = 5) (v : Value) (body : List Stmt) (scope : Scope) (pm cd doc : Value) (p1 p2 : Pos) :
    peek1 K S (bindArgs (docDef (Str.ofString "join") { posonlyargs := [], args := [{ arg := Str.ofString "a", annotation := none, pos := p1 }], vararg := some { arg := Str.ofString "p", annotation := none, pos := p2 }, kwonlyargs := [], kw_defaults := [], kwarg := none, defaults := [] } body scope pm cd doc) ⟨v :: vs, []⟩)
      = some (({ cls := .type "tuple", data := .seq vs.toArray } : Obj), fun D => some [(Str.ofString "a", v), (Str.ofString "p", .ref D)]) := by
  rcases vs with _ | ⟨a, _ | ⟨b, _ | ⟨c, _ | ⟨d, _ | ⟨e, _ | ⟨f, r⟩⟩⟩⟩⟩⟩
  all_goals first | (exfalso; simp at h35; done) | (exfalso; simp at h35; omega) | exact rfl
def joinStep (p b : Str) : Str := if (Txt.startswith b (Str.ofString "/") || decide (p.length = 0)) = true then b else if Txt.endswith p (Str.ofString "/") = true then p ++ b else p ++ (Str.ofString "/" ++ b)
theorem js1 {q y : Str} (h : Txt.startswith y (Str.ofString "/") = true) : joinStep q y = y := by unfold joinStep; rw [h, Bool.true_or, if_pos rfl]
theorem js0 {q y : Str} (h : Txt.startswith y (Str.ofString "/") = false) (h2 : (q.length : Int) = 0) : joinStep q y = y := by
  unfold joinStep; rw [h, Bool.false_or, if_pos (by rw [decide_eq_true_eq]; omega)]
theorem js2 {q y : Str} (h : Txt.startswith y (Str.ofString "/") = false) (h2 : (q.length : Int) ≠ 0) (h3 : Txt.endswith q (Str.ofString "/") = true) : joinStep q y = q ++ y := by
  unfold joinStep; rw [h, Bool.false_or, if_neg (by rw [decide_eq_true_eq]; omega), if_pos h3]
theorem js3 {q y : Str} (h : Txt.startswith y (Str.ofString "/") = false) (h2 : (q.length : Int) ≠ 0) (h3 : Txt.endswith q (Str.ofString "/") = false) : joinStep q y = q ++ (Str.ofString "/" ++ y) := by
  unfold joinStep; rw [h, Bool.false_or, if_neg (by rw [decide_eq_true_eq]; omega), if_neg (by rw [h3]; decide)]
theorem js_len (q y : Str) : (joinStep q y).length ≤ q.length + 1 + y.length := by
  unfold joinStep
  have h1 : (Str.ofString "/").length = 1 := by decide
  split
  · omega
  · split
    · rw [PySem.Str.length_append]; omega
    · rw [PySem.Str.length_append, PySem.Str.length_append]; omega
def joined (ys : List Str) : Str := ys.foldl joinStep (Str.ofString "/")
structure JSt where
  p : Str
  t : Tok
theorem c_join {w : World} {mean : ExcName → Option Value} {mg mb : Str → Option Value} {dp un : Nat} {gd : Option (List Code)} {outs : List Env} {base : Heap} {s : Shared} {E Q : Value → Shared → Prop} {t : Tok} {vs : List Value} {ys : List Str}
    (C : At 3 w mean mg mb dp un gd outs base s.heap) (hS : StrsAre vs ys) (h35 : vs.length = 3 ∨ vs.length = 4 ∨ vs.length = 5) (hyl : ∀ y ∈ ys, y.length ≤ 10)
    (hret : ∀ t' h' tk, Keeps s.heap h' → Q (.str (joined ys) t') { s with heap := h', toks := tk }) :
    wpAny (model Challenge.rw_il0057_01.row.prog w) (ar dp un gd outs) (call (.ref 115) (.str (Str.ofString "/") t :: vs)) Q E s := by
  k_with_none
  k_with "mine_pre" => (
      (have BQ := At.B (by assumption)); (have XQ := At.X (by assumption)); (have TQ := At.T (by assumption)); (have lQ := At.law (by assumption))
      revert XQ lQ; k_fill; intro XQ lQ; clear lQ
      refine wpAny_call ?_)
  k_with "mine_post" => (
      (case C => assumption); (case ho => k_dflt k_is); (case hcd => k_dflt k_is); (case hb => exact rfl); (case hl => exact locs rfl); (case c2 => exact rfl); (case c3 => exact rfl); (case c4 => exact rfl); (case c5 => decide)
      intro LQ1 h₁Q FQ1 NQ1
      (try dsimp only [List.reverse_cons, List.reverse_nil, List.nil_append, List.cons_append] at FQ1)
      (try dsimp only)
      (try k_fold))
  k_with "mine_postC" => (
      (case C => assumption); (case ho => k_dflt k_is); (case hcd => k_dflt k_is); (case hb => exact rfl); (case hl => exact rfl); (case hnd => decide +kernel); (case c2 => exact rfl); (case c3 => exact rfl); (case c4 => exact rfl)
      intro LQ1 h₁Q tkQ1 cellsQ1 FQ1 NQ1 YQ1
      k_cells YQ1
      (try simp only [List.cons_append, List.nil_append] at NQ1)
      (try dsimp only)
      (try k_fold))
  k_with "mine_preL" => (
      (have BQ := At.B (by assumption)); (have XQ := At.X (by assumption)); (have TQ := At.T (by assumption)); (have lQ := At.law (by assumption))
      revert XQ lQ; k_fill; intro XQ lQ; clear lQ
      refine wpAny_call ?_)
  k_with "mine_postL" => (
      (case C => assumption); (case hN => assumption); (case ho => k_dflt k_is); (case hcd => k_dflt k_is); (case hb => exact rfl); (case hl => exact locs rfl); (case c2 => exact rfl); (case c3 => exact rfl); (case c4 => exact rfl); (case c5 => decide)
      intro LQ1 h₁Q FQ1 NQ1 l1Q1
      k_lt l1Q1
      (try dsimp only [List.reverse_cons, List.reverse_nil, List.nil_append, List.cons_append] at FQ1)
      generalize hid _ _ = gQ at *
      (try dsimp only)
      (try k_fold))
  k_with "mine_postLC" => (
      (case C => assumption); (case hN => assumption); (case ho => k_dflt k_is); (case hcd => k_dflt k_is); (case hb => exact rfl); (case hl => exact rfl); (case hnd => decide +kernel); (case c2 => exact rfl); (case c3 => exact rfl); (case c4 => exact rfl)
      intro LQ1 h₁Q tkQ1 cellsQ1 FQ1 NQ1 YQ1 l1Q1
      k_lt l1Q1
      k_cells YQ1
      (try simp only [List.cons_append, List.nil_append] at NQ1)
      generalize hid _ _ = gQ at *
      (try dsimp only)
      (try k_fold))
  k_with "mine_room" => (refine At.less (At.push (by assumption) (by k_asm) rfl rfl) (by decide))
  k_with "mine_back" => (intro hQ1 tkQ1 hkQ1; (rename Fr _ _ _ _ => F9Q); (rename News _ _ _ _ => N9Q); (have FQ1 := Fr.after F9Q hkQ1); (have NQ1 := newsKeep N9Q hkQ1); clear hkQ1; (try k_sweep); (try dsimp only))
  k_with "call ref" => (k_here; (with_reducible show wpAny _ _ (call (Value.ref 94) [Value.str _ _]) _ _ _); k_dflt (refine' c_fspath ?C ?_; (case C => walk_at "mine_room"); k_whole); intro tQ1; walk_at "mine_back")
  k_with "call ref" => (k_here; (with_reducible show wpAny _ _ (call (Value.ref 108) [Value.str _ _]) _ _ _); k_dflt (refine' c_get_sep ?C ?_; (case C => walk_at "mine_room"); k_whole); intro tQ1; walk_at "mine_back")
  k_with "exec For Name Name cons nil" => refine Hold.out ?_
  k_with "pyIter ref" => refine Hold.out ?_
  have hy5 : ys.length ≤ 5 := by have := hS.length; omega
  walk_at "mine_pre"
  refine' enterStar (vs := vs) (binds := fun D => [(Str.ofString "a", .str (Str.ofString "/") t), (Str.ofString "p", .ref D)]) ?C ?ho ?hcd ?hp ?hg ?hl ?_ ?c2 ?c3 ?c4 ?c5
  (case C => assumption); (case ho => k_dflt k_is); (case hcd => k_dflt k_is); (case hp => exact join_peek vs h35 _ _ _ _ _ _ _ _); (case hg => exact fun _ => rfl); (case hl => exact fun _ => locs rfl); (case c2 => exact rfl); (case c3 => exact rfl); (case c4 => exact rfl); (case c5 => decide)
  intro D L' h₁ F' N'
  (try dsimp only [List.reverse_cons, List.reverse_nil, List.nil_append, List.cons_append] at F')
  (try dsimp only)
  (try k_fold)
  k_steps
  refine Hold.into ?_
  refine wpAny_For ?_
  k_steps
  refine Hold.into ?_
  (rename Fr _ _ _ _ => F9); (rename News _ _ _ _ => N9)
  refine forTuple (KJ (fun _ : JSt => [(D, ({ cls := .type "tuple", data := .seq vs.toArray } : Obj))]) (fun c => [(Str.ofString "path", .str c.p c.t)]) (fun _ => True) [Str.ofString "b"] _ (fun i c => c.p = joined (ys.take i) ∧ c.p.length ≤ 1 + 11 * i))
    rfl (by k_mem) F9 N9 (kj_start (⟨Str.ofString "/", _⟩ : JSt) trivial (by intro p hp; rw [List.mem_singleton.mp hp]; exact rfl) ⟨rfl, (by decide : (Str.ofString "/").length ≤ 1 + 11 * 0)⟩) ?turn ?done (by passes_own)
  case turn =>
    intro i v m₁ news₁ h tk I oI hv hlI hJ hm F1 N1 ne1
    obtain ⟨c', e', _, ⟨hP, hL⟩, F2⟩ := kj_open hJ F1
    subst e'
    obtain ⟨q, tq⟩ := c'
    dsimp only at *
    simp only [kstB] at F2
    clear F1 hJ F9 N9
    replace F2 : Fr _ L' _ _ := F2
    replace N1 : News _ L' _ _ := N1
    k_lt hlI
    have hiv : i < vs.length := (List.getElem?_eq_some_iff.mp hv).1
    have hvl := hS.length
    have hyi : ys[i]? = some (ys[i]'(by omega)) := List.getElem?_eq_getElem (by omega)
    generalize ys[i]'(by omega) = y at hyi
    obtain ⟨ty, e1⟩ := hS.get i y hyi
    rw [hv] at e1
    obtain rfl := Option.some.inj e1
    have hy10 := hyl y (List.mem_of_getElem? hyi)
    have hjt : joined (ys.take (i + 1)) = joinStep q y := by rw [List.take_add_one, hyi, hP]; simp [joined]
    have fin : ∀ (M0 : Str → Option Value) (SH : Shared) (QQ : Flow → Shared → Prop) z tz h' tk m' led, Fr s.heap L' h' m' → News s.heap L' h' led → (I, oI) ∈ led → (D, ({ cls := .type "tuple", data := .seq vs.toArray } : Obj)) ∈ led → @Ne Nat D I → m' (Str.ofString "path") = some (.str z tz) → (∀ x, (∀ p ∈ [(Str.ofString "path", Value.str z tz)], x ≠ p.1) → [Str.ofString "b"].contains x = false → m' x = M0 x) → joinStep q y = z →
        ForStep s.heap L' I oI [(D, ({ cls := .type "tuple", data := .seq vs.toArray } : Obj))] (KJ (fun _ : JSt => [(D, ({ cls := .type "tuple", data := .seq vs.toArray } : Obj))]) (fun c => [(Str.ofString "path", .str c.p c.t)]) (fun _ => True) [Str.ofString "b"] M0 (fun i c => c.p = joined (ys.take i) ∧ c.p.length ≤ 1 + 11 * i) (i + 1)) SH QQ .next { SH with heap := h', toks := tk } := by
      intro M0 SH QQ z tz h' tk m' led F9 N9 hI hD ne hk hr hz
      subst hz
      exact kj_end (⟨_, tz⟩ : JSt) F9 N9 hI (fun p hp => by rw [List.mem_singleton.mp hp]; exact hD) (fun p hp => by rw [List.mem_singleton.mp hp]; exact ne) (fun p hp => by rw [List.mem_singleton.mp hp]; exact List.mem_singleton.mpr rfl) trivial (fun p hp => by rw [List.mem_singleton.mp hp]; exact hk) hr ⟨hjt.symm, by have := js_len q y; show (joinStep q y).length ≤ _; omega⟩
    k_steps
    all_goals ((rename Fr _ _ _ _ => F9); (rename News _ _ _ _ => N9))
    all_goals (refine fin _ _ _ _ _ _ _ _ _ F9 N9 (by k_mem) (by k_mem) (ne1 (D, _) (by k_mem)) rfl ?_ ?_)
    · ksw_same
    · exact js1 (by assumption)
    · ksw_same
    · exact js2 (by assumption) (by assumption) (by assumption)
    · ksw_same
    · exact js3 (by assumption) (by assumption) (by assumption)
    · ksw_same
    · exact js0 (by assumption) (by assumption)
  case done =>
    intro m₁ news₁ h tk hJ F1 N1
    obtain ⟨c', e', _, ⟨hP, hL⟩, F2⟩ := kj_open hJ F1
    subst e'
    obtain ⟨q, tq⟩ := c'
    dsimp only at *
    simp only [kstB] at F2
    clear F1 hJ F9 N9
    replace F2 : Fr _ L' _ _ := F2
    replace N1 : News _ L' _ _ := N1
    k_steps
    (rename Fr _ _ _ _ => F9)
    have hq : q = joined ys := by rw [hP, List.take_of_length_le (by have := hS.length; omega)]
    subst hq
    exact hret _ _ _ F9.keep
end Mine
end
section
open PySem PySem.W PyProof.Rows PySem.Calls
set_option Elab.async false
set_option maxRecDepth 100000
set_option maxHeartbeats 4000000
namespace Mine
theorem rngOf1 {n : Nat} (h : n ≤ 5) : Builtin.Range.small 0 ((n : Int) + 1) 1 = true ∧ Builtin.Range.rangeSize 0 ((n : Int) + 1) 1 = ((n + 1 : Nat) : Int) := by
  rcases n with _ | _ | _ | _ | _ | _ | n
  all_goals first | (exfalso; omega) | exact ⟨by decide +kernel, by decide +kernel⟩
theorem facZ_cast (i : Nat) : facZ (i : Int) = (fac i : Int) := by unfold facZ; rfl
theorem fdiv_fac (a i : Nat) : Int.fdiv (a : Int) (facZ (i : Int)) = ((a / fac i : Nat) : Int) := by
  have := fac_pos i
  rw [facZ_cast, Int.fdiv_eq_ediv_of_nonneg _ (by omega)]; rfl
structure SSt2 where
  i : Nat
  t : Tok
theorem c_shared {w : World} {mean : ExcName → Option Value} {mg mb : Str → Option Value} {dp un : Nat} {gd : Option (List Code)} {outs : List Env} {base : Heap} {s : Shared} {E Q : Value → Shared → Prop} {t t1 t2 t3 : Tok} {a c z g : Nat} {rs : Nat → Str}
    (C : At 5 w mean mg mb dp un gd outs base s.heap) (hz : z ≤ 5) (hg : g ≤ z) (heq : a / fac g = c / fac g) (hne : ∀ i, i < g → a / fac i ≠ c / fac i) (hrs : ∀ i, i < g → headOf (rs i) = rs (i + 1)) (hrl : ∀ i, (rs i).length ≤ 1000)
    (hret : ∀ t' h' tk, Keeps s.heap h' → Q (.str (rs g) t') { s with heap := h', toks := tk }) :
    wpAny (model Challenge.rw_il0057_01.row.prog w) (ar dp un gd outs) (call (.ref 188) [.str (rs 0) t, .int (a : Int) t1, .int (c : Int) t2, .int (z : Int) t3]) Q E s := by
  k_with_none
  k_with "mine_pre" => (
      (have BQ := At.B (by assumption)); (have XQ := At.X (by assumption)); (have TQ := At.T (by assumption)); (have lQ := At.law (by assumption))
      revert XQ lQ; k_fill; intro XQ lQ; clear lQ
      refine wpAny_call ?_)
  k_with "mine_post" => (
      (case C => assumption); (case ho => k_dflt k_is); (case hcd => k_dflt k_is); (case hb => exact rfl); (case hl => exact locs rfl); (case c2 => exact rfl); (case c3 => exact rfl); (case c4 => exact rfl); (case c5 => decide)
      intro LQ1 h₁Q FQ1 NQ1
      (try dsimp only [List.reverse_cons, List.reverse_nil, List.nil_append, List.cons_append] at FQ1)
      (try dsimp only)
      (try k_fold))
  k_with "mine_postC" => (
      (case C => assumption); (case ho => k_dflt k_is); (case hcd => k_dflt k_is); (case hb => exact rfl); (case hl => exact rfl); (case hnd => decide +kernel); (case c2 => exact rfl); (case c3 => exact rfl); (case c4 => exact rfl)
      intro LQ1 h₁Q tkQ1 cellsQ1 FQ1 NQ1 YQ1
      k_cells YQ1
      (try simp only [List.cons_append, List.nil_append] at NQ1)
      (try dsimp only)
      (try k_fold))
  k_with "mine_preL" => (
      (have BQ := At.B (by assumption)); (have XQ := At.X (by assumption)); (have TQ := At.T (by assumption)); (have lQ := At.law (by assumption))
      revert XQ lQ; k_fill; intro XQ lQ; clear lQ
      refine wpAny_call ?_)
  k_with "mine_postL" => (
      (case C => assumption); (case hN => assumption); (case ho => k_dflt k_is); (case hcd => k_dflt k_is); (case hb => exact rfl); (case hl => exact locs rfl); (case c2 => exact rfl); (case c3 => exact rfl); (case c4 => exact rfl); (case c5 => decide)
      intro LQ1 h₁Q FQ1 NQ1 l1Q1
      k_lt l1Q1
      (try dsimp only [List.reverse_cons, List.reverse_nil, List.nil_append, List.cons_append] at FQ1)
      generalize hid _ _ = gQ at *
      (try dsimp only)
      (try k_fold))
  k_with "mine_postLC" => (
      (case C => assumption); (case hN => assumption); (case ho => k_dflt k_is); (case hcd => k_dflt k_is); (case hb => exact rfl); (case hl => exact rfl); (case hnd => decide +kernel); (case c2 => exact rfl); (case c3 => exact rfl); (case c4 => exact rfl)
      intro LQ1 h₁Q tkQ1 cellsQ1 FQ1 NQ1 YQ1 l1Q1
      k_lt l1Q1
      k_cells YQ1
      (try simp only [List.cons_append, List.nil_append] at NQ1)
      generalize hid _ _ = gQ at *
      (try dsimp only)
      (try k_fold))
  k_with "mine_room" => (refine At.less (At.push (by assumption) (by k_asm) rfl rfl) (by decide))
  k_with "mine_back" => (intro hQ1 tkQ1 hkQ1; (rename Fr _ _ _ _ => F9Q); (rename News _ _ _ _ => N9Q); (have FQ1 := Fr.after F9Q hkQ1); (have NQ1 := newsKeep N9Q hkQ1); clear hkQ1; (try k_sweep); (try dsimp only))
  k_with "call ref" => (k_here; (with_reducible show wpAny _ _ (call (Value.ref 94) [Value.str _ _]) _ _ _); k_dflt (refine' c_fspath ?C ?_; (case C => walk_at "mine_room"); k_whole); intro tQ1; walk_at "mine_back")
  k_with "call ref" => (k_here; (with_reducible show wpAny _ _ (call (Value.ref 108) [Value.str _ _]) _ _ _); k_dflt (refine' c_get_sep ?C ?_; (case C => walk_at "mine_room"); k_whole); intro tQ1; walk_at "mine_back")
  k_with "call ref" => (k_here; (with_reducible show wpAny _ _ (call (Value.ref 162) [Value.int _ _]) _ _ _); k_dflt (refine' c_ordersZ ?C ?h0 ?h5 ?_; (case C => walk_at "mine_room"); (case h0 => omega); (case h5 => omega); k_whole); intro tQ1; (try dsimp only); intro hQ1 tkQ1 hposQ1 hleQ1; revert hQ1 tkQ1; walk_at "mine_back")
  k_with "call ref" => (k_here; (with_reducible show wpAny _ _ (call (Value.ref 129) [Value.str _ _]) _ _ _); k_dflt (refine' c_dirname ?C ?z ?_; (case C => walk_at "mine_room"); (case z => omega); k_whole); intro tQ1; walk_at "mine_back")
  k_with "exec For Name Name cons nil" => refine Hold.out ?_
  k_with "exec For Name Call cons nil" => refine Hold.out ?_
  k_with "pyIter ref" => refine Hold.out ?_
  walk_at "mine_pre"
  refine' enter (binds := [(Str.ofString "way", .str (rs 0) t), (Str.ofString "one", .int (a : Int) t1), (Str.ofString "two", .int (c : Int) t2), (Str.ofString "size", .int (z : Int) t3)]) ?C ?ho ?hcd ?hb ?hl ?_ ?c2 ?c3 ?c4 ?c5
  (case C => assumption); (case ho => k_dflt k_is); (case hcd => k_dflt k_is); (case hb => exact rfl); (case hl => exact locs rfl); (case c2 => exact rfl); (case c3 => exact rfl); (case c4 => exact rfl); (case c5 => decide)
  intro L' h₁ F' N'
  (try dsimp only [List.reverse_cons, List.reverse_nil, List.nil_append, List.cons_append] at F')
  (try dsimp only)
  (try k_fold)
  k_steps
  refine Hold.into ?_
  refine wpAny_For ?_
  k_steps
  refine Hold.into ?_
  (rename Fr _ _ _ _ => F9); (rename News _ _ _ _ => N9); (rename IsRange _ _ _ _ _ _ _ _ => R9)
  refine forRange (n := z + 1) (KJ (fun _ : SSt2 => []) (fun c => [(Str.ofString "rest", .str (rs c.i) c.t)]) (fun _ => True) [Str.ofString "gone"] _ (fun i c => c.i = i ∧ i ≤ g))
      rfl R9 (rngOf1 hz).1 (rngOf1 hz).2 F9 N9 (kj_start (⟨0, _⟩ : SSt2) trivial (by intro p hp; rw [List.mem_singleton.mp hp]; exact rfl) ⟨rfl, Nat.zero_le _⟩) ?turn ?done (by passes_own)
  case turn =>
    intro i ti m₁ news₁ h tk I oI hi hlI hJ F1 N1 ne1
    obtain ⟨c', e', _, hP, F2⟩ := kj_open hJ F1
    subst e'
    obtain ⟨i', tn⟩ := c'
    dsimp only at *
    obtain ⟨rfl, hig⟩ := hP
    simp only [kstB] at F2
    clear F1 hJ F9 N9
    replace F2 : Fr _ L' _ _ := F2
    replace N1 : News _ L' _ _ := N1
    rw [Int.zero_add]
    have hrl1 := hrl i'
    have f1 := fdiv_fac a i'
    have f2 := fdiv_fac c i'
    k_steps
    all_goals ((rename Fr _ _ _ _ => F9); (rename News _ _ _ _ => N9))
    · rename (_ = Int.fdiv _ _) => e9
      have hig2 : i' = g := by
        rcases Nat.lt_or_ge i' g with h8 | h8
        · exact absurd (by rw [f1, f2] at e9; omega) (hne i' h8)
        · omega
      subst hig2
      exact hret _ _ _ F9.keep
    · rename (_ ≠ Int.fdiv _ _) => e9
      have hig2 : i' < g := by
        rcases Nat.lt_or_ge i' g with h8 | h8
        · exact h8
        · obtain rfl : i' = g := by omega
          exact absurd (by rw [f1, f2, heq]) e9
      rw [hrs i' hig2] at F9
      refine kj_end (⟨i' + 1, _⟩ : SSt2) F9 N9 (by k_mem) (fun p hp => absurd hp (by simp)) (fun p hp => absurd hp (by simp)) (fun p hp => absurd hp (by simp)) trivial (by intro p hp; rw [List.mem_singleton.mp hp]; exact rfl) ?zhr ⟨rfl, hig2⟩
      ksw_same
  case done =>
    intro m₁ news₁ h tk hJ F1 N1
    obtain ⟨c', e', _, hP, F2⟩ := kj_open hJ F1
    exfalso
    omega
end Mine
end
section
open PySem PySem.W PyProof.Rows PySem.Calls
set_option Elab.async false
set_option maxRecDepth 100000
set_option maxHeartbeats 4000000
namespace Mine
def fg (n : Int) : Int := if n ≤ 15 then 1 else if n ≤ 255 then 2 else 3
def dk (n : Int) : Int := if n ≤ 15 then n * 256 else if n ≤ 255 then n * 16 else n
def KeyObj (n : Int) (o : Obj) : Prop := ∃ t1 t2, o = { cls := .type "tuple", data := .seq #[.int (dk n) t1, .int (fg n) t2] }
theorem c_dict {w : World} {mean : ExcName → Option Value} {mg mb : Str → Option Value} {dp un : Nat} {gd : Option (List Code)} {outs : List Env} {base : Heap} {s : Shared} {E Q : Value → Shared → Prop} {n : Int} {t : Tok}
    (C : At 3 w mean mg mb dp un gd outs base s.heap) (h0 : 1 ≤ n) (h5 : n < 4096)
    (hret : ∀ D o h' tk, Keeps s.heap h' → NewIn s.heap h' [(D, o)] → KeyObj n o → Q (.ref D) { s with heap := h', toks := tk }) :
    wpAny (model Challenge.rw_il0057_01.row.prog w) (ar dp un gd outs) (call (.ref 169) [.int n t]) Q E s := by
  k_with_none
  k_with "mine_pre" => (
      (have BQ := At.B (by assumption)); (have XQ := At.X (by assumption)); (have TQ := At.T (by assumption)); (have lQ := At.law (by assumption))
      revert XQ lQ; k_fill; intro XQ lQ; clear lQ
      refine wpAny_call ?_)
  k_with "mine_post" => (
      (case C => assumption); (case ho => k_dflt k_is); (case hcd => k_dflt k_is); (case hb => exact rfl); (case hl => exact locs rfl); (case c2 => exact rfl); (case c3 => exact rfl); (case c4 => exact rfl); (case c5 => decide)
      intro LQ1 h₁Q FQ1 NQ1
      (try dsimp only [List.reverse_cons, List.reverse_nil, List.nil_append, List.cons_append] at FQ1)
      (try dsimp only)
      (try k_fold))
  k_with "mine_postC" => (
      (case C => assumption); (case ho => k_dflt k_is); (case hcd => k_dflt k_is); (case hb => exact rfl); (case hl => exact rfl); (case hnd => decide +kernel); (case c2 => exact rfl); (case c3 => exact rfl); (case c4 => exact rfl)
      intro LQ1 h₁Q tkQ1 cellsQ1 FQ1 NQ1 YQ1
      k_cells YQ1
      (try simp only [List.cons_append, List.nil_append] at NQ1)
      (try dsimp only)
      (try k_fold))
  k_with "mine_preL" => (
      (have BQ := At.B (by assumption)); (have XQ := At.X (by assumption)); (have TQ := At.T (by assumption)); (have lQ := At.law (by assumption))
      revert XQ lQ; k_fill; intro XQ lQ; clear lQ
      refine wpAny_call ?_)
  k_with "mine_postL" => (
      (case C => assumption); (case hN => assumption); (case ho => k_dflt k_is); (case hcd => k_dflt k_is); (case hb => exact rfl); (case hl => exact locs rfl); (case c2 => exact rfl); (case c3 => exact rfl); (case c4 => exact rfl); (case c5 => decide)
      intro LQ1 h₁Q FQ1 NQ1 l1Q1
      k_lt l1Q1
      (try dsimp only [List.reverse_cons, List.reverse_nil, List.nil_append, List.cons_append] at FQ1)
      generalize hid _ _ = gQ at *
      (try dsimp only)
      (try k_fold))
  k_with "mine_postLC" => (
      (case C => assumption); (case hN => assumption); (case ho => k_dflt k_is); (case hcd => k_dflt k_is); (case hb => exact rfl); (case hl => exact rfl); (case hnd => decide +kernel); (case c2 => exact rfl); (case c3 => exact rfl); (case c4 => exact rfl)
      intro LQ1 h₁Q tkQ1 cellsQ1 FQ1 NQ1 YQ1 l1Q1
      k_lt l1Q1
      k_cells YQ1
      (try simp only [List.cons_append, List.nil_append] at NQ1)
      generalize hid _ _ = gQ at *
      (try dsimp only)
      (try k_fold))
  k_with "mine_room" => (refine At.less (At.push (by assumption) (by k_asm) rfl rfl) (by decide))
  k_with "mine_back" => (intro hQ1 tkQ1 hkQ1; (rename Fr _ _ _ _ => F9Q); (rename News _ _ _ _ => N9Q); (have FQ1 := Fr.after F9Q hkQ1); (have NQ1 := newsKeep N9Q hkQ1); clear hkQ1; (try k_sweep); (try dsimp only))
  k_with "call ref" => (k_here; (with_reducible show wpAny _ _ (call (Value.ref 94) [Value.str _ _]) _ _ _); k_dflt (refine' c_fspath ?C ?_; (case C => walk_at "mine_room"); k_whole); intro tQ1; walk_at "mine_back")
  k_with "call ref" => (k_here; (with_reducible show wpAny _ _ (call (Value.ref 108) [Value.str _ _]) _ _ _); k_dflt (refine' c_get_sep ?C ?_; (case C => walk_at "mine_room"); k_whole); intro tQ1; walk_at "mine_back")
  have hret' : ∀ a b t1 t2 D h' tk, a = dk n → b = fg n → Keeps s.heap h' → NewIn s.heap h' [(D, { cls := .type "tuple", data := .seq #[.int a t1, .int b t2] })] → Q (.ref D) { s with heap := h', toks := tk } := by
    rintro a b t1 t2 D h' tk rfl rfl hk hn
    exact hret D _ h' tk hk hn ⟨t1, t2, rfl⟩
  clear hret
  walk_at "mine_pre"
  refine' enter (binds := [(Str.ofString "number", .int n t)]) ?C ?ho ?hcd ?hb ?hl ?_ ?c2 ?c3 ?c4 ?c5
  (case C => assumption); (case ho => k_dflt k_is); (case hcd => k_dflt k_is); (case hb => exact rfl); (case hl => exact locs rfl); (case c2 => exact rfl); (case c3 => exact rfl); (case c4 => exact rfl); (case c5 => decide)
  intro L' h₁ F' N'
  (try dsimp only [List.reverse_cons, List.reverse_nil, List.nil_append, List.cons_append] at F')
  (try dsimp only)
  (try k_fold)
  k_steps
  (rename Fr _ _ _ _ => F9); (rename News _ _ _ _ => N9)
  refine hret' _ _ _ _ _ _ _ ?_ ?_ F9.keep (newIn_of N9 (fun p hp => by rw [List.mem_singleton.mp hp]; exact List.Mem.head _))
  · rcases (show n ≤ 15 ∨ (15 < n ∧ n ≤ 255) ∨ 255 < n by omega) with hc | hc | hc
    · simp [dk, hc, show ¬ 15 < n by omega, show ¬ 255 < n by omega]
    · simp [dk, hc, show ¬ n ≤ 15 by omega, show ¬ 255 < n by omega]
    · simp [dk, hc, show ¬ n ≤ 15 by omega, show ¬ n ≤ 255 by omega, show 15 < n by omega]
  · rcases (show n ≤ 15 ∨ (15 < n ∧ n ≤ 255) ∨ 255 < n by omega) with hc | hc | hc
    · simp [fg, hc, show ¬ 15 < n by omega, show ¬ 255 < n by omega]
    · simp [fg, hc, show ¬ n ≤ 15 by omega, show ¬ 255 < n by omega]
    · simp [fg, hc, show ¬ n ≤ 15 by omega, show ¬ n ≤ 255 by omega, show 15 < n by omega]
end Mine
end
section
open PySem PySem.W PyProof.Rows PySem.Calls
set_option Elab.async false
set_option maxRecDepth 100000
set_option maxHeartbeats 4000000
namespace Mine
def krun {α : Type} (lt : Nat → Nat → Bool) : KasT α → α
  | .ret a => a
  | .ask i j k => krun lt (k (lt i j))
def kok {α : Type} (n : Nat) : KasT α → Bool
  | .ret _ => true
  | .ask i j k => decide (i < n) && decide (j < n) && kok n (k true) && kok n (k false)
theorem kok_ask {α : Type} {n i j : Nat} {k : Bool → KasT α} (h : kok n (.ask i j k) = true) : i < n ∧ j < n ∧ ∀ b, kok n (k b) = true := by
  simp only [kok, Bool.and_eq_true, decide_eq_true_eq] at h
  exact ⟨h.1.1.1, h.1.1.2, fun b => by cases b; exact h.2; exact h.1.2⟩
theorem krun_wp {α : Type} {cmp : Nat → Nat → (Bool → Shared → Prop) → Shared → Prop} {Q : α → Shared → Prop} {s : Shared} {lt : Nat → Nat → Bool} {n : Nat} (hc : ∀ i j C, i < n → j < n → C (lt i j) s → cmp i j C s) :
    ∀ t : KasT α, kok n t = true → Q (krun lt t) s → t.kasWp cmp Q s
  | .ret a, _, h => h
  | .ask i j k, hk, h => by
    obtain ⟨h1, h2, h3⟩ := kok_ask hk
    exact hc i j _ h1 h2 (krun_wp hc (k (lt i j)) (h3 _) h)
theorem krun_congr {α : Type} {lt lt' : Nat → Nat → Bool} {n : Nat} (hc : ∀ i j, i < n → j < n → lt i j = lt' i j) : ∀ t : KasT α, kok n t = true → krun lt t = krun lt' t
  | .ret a, _ => rfl
  | .ask i j k, hk => by
    obtain ⟨h1, h2, h3⟩ := kok_ask hk
    show krun lt (k (lt i j)) = krun lt' (k (lt' i j))
    rw [hc i j h1 h2]
    exact krun_congr hc _ (h3 _)
def allLists (n : Nat) : Nat → List (List Nat)
  | 0 => [[]]
  | k + 1 => (allLists n k).flatMap fun l => (List.range n).map fun x => x :: l
theorem mem_allLists {n : Nat} : ∀ (l : List Nat), (∀ x ∈ l, x < n) → l ∈ allLists n l.length
  | [], _ => List.mem_singleton.mpr rfl
  | x :: l, h => by
    show x :: l ∈ (allLists n l.length).flatMap _
    exact List.mem_flatMap.mpr ⟨l, mem_allLists l fun y hy => h y (List.mem_cons_of_mem _ hy), List.mem_map.mpr ⟨x, List.mem_range.mpr (h x (List.mem_cons_self ..)), rfl⟩⟩
def goodP (n : Nat) (σ : List Nat) : Bool :=
  let p := (krun (fun i j => decide (σ.getD i 0 < σ.getD j 0)) (kas_sort n)).toList
  decide (p.Perm (List.range n)) && decide (p.Pairwise fun a b => σ.getD a 0 < σ.getD b 0)
def goodAll (n : Nat) : Bool := (allLists n n).all fun σ => if σ.Nodup then goodP n σ else true
theorem kok3 : kok 3 (kas_sort 3) = true := by decide +kernel
theorem kok4 : kok 4 (kas_sort 4) = true := by decide +kernel
theorem kok5 : kok 5 (kas_sort 5) = true := by decide +kernel
theorem good3 : goodAll 3 = true := by decide +kernel
theorem good4 : goodAll 4 = true := by decide +kernel
theorem good5 : goodAll 5 = true := by decide +kernel
def rankOf (K : Nat → Int) (n : Nat) (i : Nat) : Nat := (List.range n).countP fun j => decide (K j < K i)
theorem countP_lt {α : Type} {p q : α → Bool} (h : ∀ x, p x = true → q x = true) : ∀ (l : List α) (a : α), a ∈ l → p a = false → q a = true → l.countP p < l.countP q
  | x :: l, a, hm, hp, hq => by
    have hle : l.countP p ≤ l.countP q := List.countP_mono_left fun y _ hy => h y hy
    rcases List.mem_cons.mp hm with rfl | hm
    · rw [List.countP_cons_of_neg (by rw [hp]; decide), List.countP_cons_of_pos hq]; omega
    · have ih := countP_lt h l a hm hp hq
      rw [List.countP_cons, List.countP_cons]
      cases hx : p x with
      | true => rw [h x hx]; simp; omega
      | false => simp; omega
theorem rank_lt {K : Nat → Int} {n i j : Nat} (hi : i < n) (h : K i < K j) : rankOf K n i < rankOf K n j :=
  countP_lt (fun x hx => by simp only [decide_eq_true_eq] at hx ⊢; omega) _ i (List.mem_range.mpr hi) (by simp) (by simpa using h)
theorem rank_iff {K : Nat → Int} {n i j : Nat} (hi : i < n) (hj : j < n) (hd : i ≠ j → K i ≠ K j) : decide (rankOf K n i < rankOf K n j) = decide (K i < K j) := by
  by_cases h : K i < K j
  · rw [decide_eq_true h, decide_eq_true (rank_lt hi h)]
  · rw [decide_eq_false h, decide_eq_false]
    by_cases e : i = j
    · subst e; omega
    · have := hd e
      have := @rank_lt K n j i hj (by omega)
      omega
theorem rank_bound {K : Nat → Int} {n i : Nat} (hi : i < n) : rankOf K n i < n := by
  have h1 : (List.range n).countP (fun j => decide (K j < K i)) < (List.range n).countP (fun _ => true) := countP_lt (fun _ _ => rfl) _ i (List.mem_range.mpr hi) (by simp) rfl
  have h2 : (List.range n).countP (fun _ => true) = n := by simp
  unfold rankOf; omega
theorem sort_run {K : Nat → Int} {n : Nat} (hk : kok n (kas_sort n) = true) (hg : goodAll n = true) (hd : ∀ i j, i < n → j < n → i ≠ j → K i ≠ K j) :
    (krun (fun i j => decide (K i < K j)) (kas_sort n)).toList.Perm (List.range n) ∧ (krun (fun i j => decide (K i < K j)) (kas_sort n)).toList.Pairwise fun a b => K a < K b := by
  let σ := (List.range n).map (rankOf K n)
  have hσ : ∀ i, i < n → σ.getD i 0 = rankOf K n i := fun i hi => by simp [σ, List.getD, hi]
  have hlen : σ.length = n := by simp [σ]
  have hmem : σ ∈ allLists n n := by
    have := mem_allLists (n := n) σ (fun x hx => by obtain ⟨i, hi, rfl⟩ := List.mem_map.mp hx; exact rank_bound (List.mem_range.mp hi))
    rwa [hlen] at this
  have hnd : σ.Nodup := by
    show List.Pairwise (· ≠ ·) ((List.range n).map (rankOf K n))
    rw [List.pairwise_map]
    refine List.Pairwise.imp_of_mem ?_ (List.nodup_range (n := n))
    intro a b ha hb hab e
    have ha' := List.mem_range.mp ha
    have hb' := List.mem_range.mp hb
    have h := hd a b ha' hb' hab
    rcases Int.lt_or_gt_of_ne h with h | h
    · have := @rank_lt K n a b ha' h; omega
    · have := @rank_lt K n b a hb' h; omega
  have hgood := List.all_eq_true.mp hg σ hmem
  simp only [hnd, if_true] at hgood
  unfold goodP at hgood
  simp only [Bool.and_eq_true, decide_eq_true_eq] at hgood
  have e : krun (fun i j => decide (K i < K j)) (kas_sort n) = krun (fun i j => decide (σ.getD i 0 < σ.getD j 0)) (kas_sort n) := by
    refine krun_congr (n := n) (fun i j hi hj => ?_) _ hk
    rw [hσ i hi, hσ j hj, rank_iff hi hj (hd i j hi hj)]
  rw [e]
  refine ⟨hgood.1, hgood.2.imp_of_mem fun {a b} ha hb hr => ?_⟩
  have ha' := List.mem_range.mp (hgood.1.mem_iff.mp ha)
  have hb' := List.mem_range.mp (hgood.1.mem_iff.mp hb)
  rw [hσ a ha', hσ b hb'] at hr
  by_cases e2 : a = b
  · subst e2; omega
  · have h := rank_iff ha' hb' (hd a b ha' hb')
    rw [decide_eq_true hr] at h
    exact of_decide_eq_true h.symm
end Mine
end
section
open PySem PySem.W PyProof.Rows PySem.Calls
set_option Elab.async false
set_option maxRecDepth 100000
set_option maxHeartbeats 4000000
namespace Mine
def kz (n : Int) : Int := dk n * 4 + fg n
def KeysIn (tl : List (Addr × Obj)) : List Value → List Int → Prop
  | [], [] => True
  | v :: vs, n :: ns => (∃ D o, v = .ref D ∧ (D, o) ∈ tl ∧ KeyObj n o) ∧ KeysIn tl vs ns
  | _, _ => False
theorem KeysIn.len {tl : List (Addr × Obj)} : ∀ {vs : List Value} {ns : List Int}, KeysIn tl vs ns → vs.length = ns.length
  | [], [], _ => rfl
  | _ :: _, _ :: _, h => by rw [List.length_cons, List.length_cons, h.2.len]
  | [], _ :: _, h => h.elim
  | _ :: _, [], h => h.elim
theorem KeysIn.mono {tl tl' : List (Addr × Obj)} (hs : ∀ p ∈ tl, p ∈ tl') : ∀ {vs : List Value} {ns : List Int}, KeysIn tl vs ns → KeysIn tl' vs ns
  | [], [], _ => trivial
  | _ :: _, _ :: _, h => by
    obtain ⟨⟨D, o, e, hm, hk⟩, hr⟩ := h
    exact ⟨⟨D, o, e, hs _ hm, hk⟩, hr.mono hs⟩
  | [], _ :: _, h => h.elim
  | _ :: _, [], h => h.elim
theorem KeysIn.snoc {tl : List (Addr × Obj)} {D : Addr} {o : Obj} {n : Int} (hm : (D, o) ∈ tl) (hk : KeyObj n o) : ∀ {vs : List Value} {ns : List Int}, KeysIn tl vs ns → KeysIn tl (vs ++ [.ref D]) (ns ++ [n])
  | [], [], _ => ⟨⟨D, o, rfl, hm, hk⟩, trivial⟩
  | _ :: _, _ :: _, h => ⟨h.1, KeysIn.snoc hm hk h.2⟩
  | [], _ :: _, h => h.elim
  | _ :: _, [], h => h.elim
theorem KeysIn.get {tl : List (Addr × Obj)} : ∀ {vs : List Value} {ns : List Int} {i : Nat}, KeysIn tl vs ns → i < ns.length → ∃ D o, vs.getD i .none = .ref D ∧ (D, o) ∈ tl ∧ KeyObj (ns.getD i 0) o
  | _ :: _, _ :: _, 0, h, _ => h.1
  | _ :: _, _ :: ns, i + 1, h, hi => by
    have := KeysIn.get (i := i) h.2 (by simpa using hi)
    simpa using this
  | [], [], i, _, hi => by simp at hi
  | [], _ :: _, _, h, _ => h.elim
  | _ :: _, [], _, h, _ => h.elim
theorem KeysIn.tups {h : Heap} {tl : List (Addr × Obj)} (hg : ∀ p ∈ tl, h.get? p.1 = some p.2) : ∀ {vs : List Value} {ns : List Int}, KeysIn tl vs ns → ∃ fs, KatTups h vs fs ∧ fs.length = ns.length ∧ ∀ v ∈ fs, ∃ k t, v = .int k t
  | [], [], _ => ⟨[], .nil, rfl, fun _ hv => absurd hv (by simp)⟩
  | _ :: _, _ :: _, hh => by
    obtain ⟨⟨D, o, rfl, hm, t1, t2, rfl⟩, hr⟩ := hh
    obtain ⟨fs, a, b, c⟩ := KeysIn.tups hg hr
    refine ⟨_ :: fs, KatTups.cons (hg _ hm) rfl rfl rfl a, by rw [List.length_cons, List.length_cons, b], fun v hv => ?_⟩
    rcases List.mem_cons.mp hv with rfl | hv
    · exact ⟨_, _, rfl⟩
    · exact c v hv
  | [], _ :: _, h => h.elim
  | _ :: _, [], h => h.elim
section
variable {prog : Program} {w : World} {A : Around} {s : Shared}
theorem int_looks {M : Model} {h : Heap} {k : Int} {t : Tok} : Looks M h (typeOf (.int k t)) (.type "int") := Looks.of_pure rfl
theorem fg_pos (n : Int) : 1 ≤ fg n ∧ fg n ≤ 3 := by unfold fg; split; omega; split <;> omega
theorem ask_keys {tl : List (Addr × Obj)} (hg : ∀ p ∈ tl, s.heap.get? p.1 = some p.2) {ks : List Value} {ns : List Int} (hk : KeysIn tl ks ns) {i j : Nat} {C : Bool → Shared → Prop} (hi : i < ns.length) (hj : j < ns.length)
    (h : C (decide (kz (ns.getD i 0) < kz (ns.getD j 0))) s) : kas_ask prog w A (tuples' true) ks i j C s := by
  obtain ⟨D, o, e1, hm1, t1, t2, rfl⟩ := hk.get hi
  obtain ⟨D', o', e2, hm2, u1, u2, rfl⟩ := hk.get hj
  unfold kas_ask
  rw [e1, e2]
  refine kat_lt (hg _ hm1) rfl (hg _ hm2) rfl ?_
  have f1 := fg_pos (ns.getD i 0)
  have f2 := fg_pos (ns.getD j 0)
  show KatLex prog w A true _ C [(Value.int (dk (ns.getD i 0)) t1, Value.int (dk (ns.getD j 0)) u1), (Value.int (fg (ns.getD i 0)) t2, Value.int (fg (ns.getD j 0)) u2)] 0 s
  refine kat_cons (wpAny_eqBool_int ?_)
  by_cases c1 : dk (ns.getD i 0) = dk (ns.getD j 0)
  · rw [c1, beq_self_eq_true]
    refine kat_yes (kat_cons (wpAny_eqBool_int ?_))
    by_cases c2 : fg (ns.getD i 0) = fg (ns.getD j 0)
    · rw [c2, beq_self_eq_true]
      refine kat_yes (kat_nil ?_)
      have e3 : decide (kz (ns.getD i 0) < kz (ns.getD j 0)) = false := decide_eq_false (by unfold kz; omega)
      rw [e3] at h
      exact h
    · rw [show (fg (ns.getD i 0) == fg (ns.getD j 0)) = false from by simpa using c2]
      refine kat_no ?_
      refine kat_one _ _ (lt_int ?_)
      have e3 : decide (kz (ns.getD i 0) < kz (ns.getD j 0)) = decide (fg (ns.getD i 0) < fg (ns.getD j 0)) := by
        by_cases c3 : fg (ns.getD i 0) < fg (ns.getD j 0)
        · rw [decide_eq_true c3, decide_eq_true (by unfold kz; omega)]
        · rw [decide_eq_false c3, decide_eq_false (by unfold kz; omega)]
      rw [e3] at h
      exact h
  · rw [show (dk (ns.getD i 0) == dk (ns.getD j 0)) = false from by simpa using c1]
    refine kat_no (oneLt_int ?_)
    have e3 : decide (kz (ns.getD i 0) < kz (ns.getD j 0)) = decide (dk (ns.getD i 0) < dk (ns.getD j 0)) := by
      by_cases c3 : dk (ns.getD i 0) < dk (ns.getD j 0)
      · rw [decide_eq_true c3, decide_eq_true (by unfold kz; omega)]
      · rw [decide_eq_false c3, decide_eq_false (by unfold kz; omega)]
    rw [e3] at h
    exact h
end
theorem At.units {n : Nat} {w : World} {mean : ExcName → Option Value} {mg mb : Str → Option Value} {dp un : Nat} {gd : Option (List Code)} {outs : List Env} {base h : Heap} (C : At (n + 1) w mean mg mb dp un gd outs base h) : At n w mean mg mb dp (un + 2) gd outs base h :=
  ⟨rfl, ⟨C.B.stack, C.B.stays, C.B.frames⟩, C.X, C.T, by have := C.d; omega, by have := C.u; omega⟩
section
variable {n : Nat} {w : World} {mean : ExcName → Option Value} {mg mb : Str → Option Value} {dp un : Nat} {gd : Option (List Code)} {outs : List Env} {base h₀ : Heap} {L : Addr} {m : Str → Option Value} {env : Env} {s : Shared} {E Q : Value → Shared → Prop}
theorem keysGo {D kS : Addr} {e1 : Nat} {news : List (Addr × Obj)} {FinP : List Value → Nat → Shared → Prop} (C : At 6 w mean mg mb dp un gd outs base h₀) (hf : env.frame = some L) (hkf : env.scope.kind = .function) (nkS : ∀ p ∈ (D, seqObj "list" #[] e1) :: news, p.1 ≠ kS) (all : List Int)
    (fin : ∀ ks e h tk tl, Fr h₀ L h m → News h₀ L h ((kS, seqObj "list" (List.toArray ks) e) :: (D, seqObj "list" #[] e1) :: (tl ++ news)) → (∀ p ∈ tl, p.1 ≠ kS ∧ p.1 ≠ D) → KeysIn tl ks all → FinP ks e { s with heap := h, toks := tk }) :
    ∀ (r : List Value) (nr : List Int) (ks : List Value) (nd : List Int) (e : Nat) (h : Heap) (tk : Nat) (tl : List (Addr × Obj)), IntsAre r nr → (∀ x ∈ nr, 1 ≤ x ∧ x < 4096) → nd ++ nr = all → Fr h₀ L h m → News h₀ L h ((kS, seqObj "list" (List.toArray ks) e) :: (D, seqObj "list" #[] e1) :: (tl ++ news)) → (∀ p ∈ tl, p.1 ≠ kS ∧ p.1 ≠ D) → KeysIn tl ks nd →
      KatKeys PRG w (ar (dp + 1) (un + 3) gd (env :: outs)).in1.in1 h₀ L m kS (.ref 169) FinP r ks e { s with heap := h, toks := tk }
  | _, _, ks, nd, e, h, tk, tl, .nil, _, ha, F, N, nt, hK => by
    rw [List.append_nil] at ha
    subst ha
    exact KatKeys.nil (fin ks e h tk tl F N nt hK)
  | _, _, ks, nd, e, h, tk, tl, .cons (vs := r) (ns := nr) x t hI, hb, ha, F, N, nt, hK => by
    refine KatKeys.cons ?_
    have C1 : At 5 w mean mg mb (dp + 1) (un + 3) gd (env :: outs) base h := At.push C F hf hkf
    have C2 := (At.units C1).less (k := 3) (by decide)
    have hx := hb x (List.mem_cons_self ..)
    refine c_dict (s := { s with heap := h, toks := tk }) C2 hx.1 hx.2 ?_
    intro D' o' h' tk' hk' hn' ho'
    have F' := Fr.after F hk'
    have N' := newsMore F N hk' hn'
    have nes : ∀ p ∈ (kS, seqObj "list" (List.toArray ks) e) :: (D, seqObj "list" #[] e1) :: (tl ++ news), p.1 ≠ D' := fun p hp q => by
      have h1 := (N p hp).1
      have h2 := (hn' _ (List.mem_cons_self ..)).2
      rw [show p.1 = D' from q] at h1
      rw [show h.get? D' = none from h2] at h1
      cases h1
    have hN2 : News h₀ L h' ((kS, seqObj "list" (List.toArray ks) e) :: (D, seqObj "list" #[] e1) :: ((tl ++ [(D', o')]) ++ news)) := fun p hp => N' p (by
      simp only [List.mem_cons, List.mem_append, List.append_assoc, List.cons_append, List.nil_append] at hp ⊢
      rcases hp with h | h | h | h | h
      · exact .inr (.inl h)
      · exact .inr (.inr (.inl h))
      · exact .inr (.inr (.inr (.inl h)))
      · exact .inl h
      · exact .inr (.inr (.inr (.inr h))))
    have nt2 : ∀ p ∈ tl ++ [(D', o')], p.1 ≠ kS ∧ p.1 ≠ D := fun p hp => by
      rcases List.mem_append.mp hp with hp | hp
      · exact nt p hp
      · rw [List.mem_singleton.mp hp]
        exact ⟨fun q => nes (kS, _) (List.mem_cons_self ..) q.symm, fun q => nes (D, _) (List.mem_cons_of_mem _ (List.mem_cons_self ..)) q.symm⟩
    refine KatBack.intro F' hN2 (UpdF.head fun p hp => ?_) fun h2 c2 F2 N2 => ?_
    · rcases List.mem_cons.mp hp with rfl | hp
      · exact nkS _ (List.mem_cons_self ..)
      · rcases List.mem_append.mp hp with hp | hp
        · exact (nt2 p hp).1
        · exact nkS _ (List.mem_cons_of_mem _ hp)
    · exact keysGo C hf hkf nkS all fin r nr (ks ++ [.ref D']) (nd ++ [x]) c2 h2 tk' (tl ++ [(D', o')]) hI (fun y hy => hb y (List.mem_cons_of_mem _ hy)) (by rw [← ha]; simp) F2 N2 nt2 (KeysIn.snoc (List.mem_append_right _ (List.mem_singleton.mpr rfl)) ho' (hK.mono fun p hp => List.mem_append_left _ hp))
theorem ints_getD {vs : List Value} {ns : List Int} (h : IntsAre vs ns) {i : Nat} (hi : i < ns.length) : ∃ t, vs.getD i .none = .int (ns.getD i 0) t := by
  obtain ⟨t, ht⟩ := h.get i ns[i] (List.getElem?_eq_getElem hi)
  exact ⟨t, by rw [List.getD_eq_getElem?_getD, ht, List.getD_eq_getElem?_getD, List.getElem?_eq_getElem hi]; rfl⟩
theorem ints_pick {vs : List Value} {ns : List Int} (h : IntsAre vs ns) : ∀ (p : List Nat), (∀ i ∈ p, i < ns.length) → IntsAre (p.map fun i => vs.getD i .none) (p.map fun i => ns.getD i 0)
  | [], _ => .nil
  | i :: p, hp => by
    obtain ⟨t, e⟩ := ints_getD h (hp i (List.mem_cons_self ..))
    rw [List.map_cons, List.map_cons, e]
    exact .cons _ t (ints_pick h p fun j hj => hp j (List.mem_cons_of_mem _ hj))
theorem range_pick (ns : List Int) : (List.range ns.length).map (fun i => ns.getD i 0) = ns := by
  refine List.ext_getElem (by simp) fun i h1 h2 => ?_
  simp [List.getD, h2]
theorem sort_ints {ns : List Int} (h35 : ns.length = 3 ∨ ns.length = 4 ∨ ns.length = 5) (hd : (ns.map kz).Nodup) :
    kok ns.length (kas_sort ns.length) = true ∧ (krun (fun i j => decide (kz (ns.getD i 0) < kz (ns.getD j 0))) (kas_sort ns.length)).toList.Perm (List.range ns.length) ∧ (krun (fun i j => decide (kz (ns.getD i 0) < kz (ns.getD j 0))) (kas_sort ns.length)).toList.Pairwise fun a b => kz (ns.getD a 0) < kz (ns.getD b 0) := by
  have hK : kok ns.length (kas_sort ns.length) = true := by rcases h35 with h | h | h <;> rw [h]; exact kok3; exact kok4; exact kok5
  have hG : goodAll ns.length = true := by rcases h35 with h | h | h <;> rw [h]; exact good3; exact good4; exact good5
  refine ⟨hK, sort_run (K := fun i => kz (ns.getD i 0)) hK hG fun i j hi hj hij e => hij ?_⟩
  have e2 : (ns.map kz)[i]'(by simpa using hi) = (ns.map kz)[j]'(by simpa using hj) := by
    simp only [List.getElem_map]
    simpa [List.getD, hi, hj] using e
  have hp := List.pairwise_iff_getElem.mp hd
  rcases Nat.lt_trichotomy i j with h | h | h
  · exact absurd e2 (hp i j _ _ h)
  · exact h
  · exact absurd e2.symm (hp j i _ _ h)
theorem sortKey {l : Addr} {c : Nat} {vs : List Value} {ns : List Int} {news : List (Addr × Obj)} (C : At 6 w mean mg mb dp un gd outs base h₀) (F : Fr h₀ L s.heap m) (hf : env.frame = some L) (hkf : env.scope.kind = .function) (N : News h₀ L s.heap news) (hl : (l, listOf vs.toArray c) ∈ news)
    (hI : IntsAre vs ns) (h35 : ns.length = 3 ∨ ns.length = 4 ∨ ns.length = 5) (hb : ∀ x ∈ ns, 1 ≤ x ∧ x < 4096) (hd : (ns.map kz).Nodup)
    (h : ∀ D c' vs' ns' h' tk, Fr h₀ L h' m → News h₀ L h' ((D, listOf (List.toArray vs') c') :: news) → (∀ q ∈ news, q.1 < D) → IntsAre vs' ns' → ns'.Perm ns → ns'.Pairwise (fun a b => kz a < kz b) → Q (.ref D) { s with heap := h', toks := tk }) :
    wpAny (model PRG w) (ar (dp + 1) (un + 3) gd (env :: outs)) (call (.builtin "sorted") [.ref l] [(Str.ofString "key", .ref 169)]) Q E s := by
  have hvl := hI.length
  have hS := sort_ints h35 hd
  refine kat_sortedK (b := false) F N (lstAt N hl) (by omega) (by omega) (ksk_s1 _ _) (fun _ => ksk_l1 _ _) (fun _ => ksk_t1 _ _) fun D kS e1 h' F' N' hDk hnD => ?_
  have nkS : ∀ p ∈ (D, seqObj "list" #[] e1) :: news, p.1 ≠ kS := fun p hp => by
    rcases List.mem_cons.mp hp with rfl | hp
    · exact Nat.ne_of_lt hDk
    · exact Nat.ne_of_lt (Nat.lt_trans (hnD p hp) hDk)
  refine keysGo (s := s) (news := news) (e1 := e1) (D := D) C hf hkf nkS ns ?_ vs ns [] [] 0 h' s.toks [] hI hb rfl F' N' (fun p hp => absurd hp (by simp)) trivial
  intro ks e h2 tk tl F2 N2 nt hK
  have hg : ∀ p ∈ tl, h2.get? p.1 = some p.2 := fun p hp => (N2 p (List.mem_cons_of_mem _ (List.mem_cons_of_mem _ (List.mem_append_left _ hp)))).1
  obtain ⟨fs, hT, hfl, hfi⟩ := hK.tups hg
  refine kat_kind (s := { s with heap := h2, toks := tk }) (T := .type "int") hT (by omega) (fun v hv => ?_) rfl ?_
  · obtain ⟨k, t, rfl⟩ := hfi v hv
    exact int_looks
  show (kas_sort vs.length).kasWp (kas_ask PRG w _ (tuples' true) ks) _ _
  rw [hvl]
  refine krun_wp (n := ns.length) (lt := fun i j => decide (kz (ns.getD i 0) < kz (ns.getD j 0))) (fun i j Cc hi hj hc => ask_keys hg hK hi hj hc) _ hS.1 ?_
  generalize (krun (fun i j => decide (kz (ns.getD i 0) < kz (ns.getD j 0))) (kas_sort ns.length)) = p at hS
  obtain ⟨_, hp, ho⟩ := hS
  have hpm : ∀ i ∈ p.toList, i < ns.length := fun i hi => List.mem_range.mp (hp.mem_iff.mp hi)
  refine KatFin.intro (g := fun o => (kS, o) :: (D, seqObj "list" #[] e1) :: (tl ++ news)) F2 N2 (UpdF.head fun q hq => ?_) fun h3 c3 F3 N3 => ?_
  · rcases List.mem_cons.mp hq with rfl | hq
    · exact nkS _ (List.mem_cons_self ..)
    · rcases List.mem_append.mp hq with hq | hq
      · exact (nt q hq).1
      · exact nkS _ (List.mem_cons_of_mem _ hq)
  · have N4 : News h₀ L h3 ((D, seqObj "list" #[] e1) :: news) := fun q hq => N3 q (by
      rcases List.mem_cons.mp hq with rfl | hq
      · exact List.mem_cons_of_mem _ (List.mem_cons_self ..)
      · exact List.mem_cons_of_mem _ (List.mem_cons_of_mem _ (List.mem_append_right _ hq)))
    refine KasFin.intro F3 N4 (UpdF.head fun q hq => Nat.ne_of_lt (hnD q hq)) fun h5 c5 F5 N5 => ?_
    exact h D c5 _ _ h5 tk F5 N5 hnD (ints_pick hI p.toList hpm) (by
      have := hp.map (fun i => ns.getD i 0)
      rwa [range_pick] at this) (by rw [List.pairwise_map]; exact ho)
end
end Mine
end
section
open PySem PySem.W PyProof.Rows PySem.Calls
set_option Elab.async false
set_option maxRecDepth 100000
set_option maxHeartbeats 4000000
namespace Mine
theorem owner_map : Manifest.owners.lookup (String.ofList ['p', 'a', 'm'].reverse) = some Manifest.sig_map := by kernel_rfl
theorem slot_map_next : Slot "map" "__next__" "map.__next__" :=
  .of (owner := "map") (n := "__next__") (by rw [typeLookup_type, builtinLookup_eq_fast]; kernel_rfl) (by decide +kernel) (by decide +kernel) (by decide +kernel)
    (by first | exact .inl (by decide +kernel) | exact .inr (by decide +kernel)) (by rw [isSubtype_type]; kernel_rfl)
theorem slot_map_iter : Slot "map" "__iter__" "map.__iter__" :=
  .of (owner := "map") (n := "__iter__") (by rw [typeLookup_type, builtinLookup_eq_fast]; kernel_rfl) (by decide +kernel) (by decide +kernel) (by decide +kernel)
    (by first | exact .inl (by decide +kernel) | exact .inr (by decide +kernel)) (by rw [isSubtype_type]; kernel_rfl)
theorem slot_map_init : Slot "map" "__init__" "object.__init__" :=
  .of (owner := "object") (n := "__init__") (by rw [typeLookup_type, builtinLookup_eq_fast]; kernel_rfl) (by decide +kernel) (by decide +kernel) (by decide +kernel)
    (by first | exact .inl (by decide +kernel) | exact .inr (by decide +kernel)) (by rw [isSubtype_type]; kernel_rfl)
theorem args_map_next (a : Value) : argsOk "map.__next__" ⟨[a], []⟩ := by
  unfold argsOk; rw [signature?_of (id := "map.__next__") (n := ['_', '_', 't', 'x', 'e', 'n', '_', '_']) (o := ['p', 'a', 'm']) (by kernel_rfl) owner_map]; kernel_rfl
theorem args_map_iter (a : Value) : argsOk "map.__iter__" ⟨[a], []⟩ := by
  unfold argsOk; rw [signature?_of (id := "map.__iter__") (n := ['_', '_', 'r', 'e', 't', 'i', '_', '_']) (o := ['p', 'a', 'm']) (by kernel_rfl) owner_map]; kernel_rfl
theorem entry_map_next : entryFor table "map.__next__" = some Builtin.«map.__next__» := entryFor_of_tree (by kernel_rfl)
theorem entry_map_new : entryFor table "map.__new__" = some Builtin.«map.__new__» := entryFor_of_tree (by kernel_rfl)
theorem entry_map_iter : entryFor table "map.__iter__" = some Builtin.«dict_keyiterator.__iter__» :=
  entryFor_alias (id' := "dict_keyiterator.__iter__") (by kernel_rfl) (by first | rfl | decide +kernel | (unfold String.splitOn; simp +decide [String.splitOnAux])) (by decide +kernel) (by kernel_rfl)
theorem mro_map : mroOf (.type "map") = pure [.type "map", .type "object"] := by rw [mroOf_type]; kernel_rfl
theorem lookup_map_new : typeLookup (.type "map") "__new__" = pure (some (.builtin "map.__new__")) := by rw [typeLookup_type, builtinLookup_eq_fast]; kernel_rfl
theorem called_map : TypeCalled "map" "map.__new__" "object.__init__" :=
  ⟨by decide +kernel, by decide +kernel, ⟨_, _, mro_map⟩, madeBy_type mro_map lookup_map_new (by decide +kernel), by decide +kernel, by rw [isSubtype_type]; kernel_rfl, slot_map_init⟩
theorem typeCall_map_2 (a b : Value) : checkTypeCall "map" ⟨[a, b], []⟩ = pure () := by kernel_rfl
theorem newCall_map_2 (a b : Value) : checkBuiltinCall "map.__new__" ⟨[.type "map", a, b], []⟩ = pure () := by kernel_rfl
theorem sub_map : isSubtype (.type "map") (.type "map") = pure true := by rw [isSubtype_type]; kernel_rfl
theorem nolen_map : typeLookup (.type "map") "__len__" = pure none := by rw [typeLookup_type, builtinLookup_eq_fast]; kernel_rfl
theorem nohint_map : typeLookup (.type "map") "__length_hint__" = pure none := by rw [typeLookup_type, builtinLookup_eq_fast]; kernel_rfl
abbrev iterO (l : Addr) (i : Nat) : Obj := { cls := .type "list_iterator", data := .fields #[.ref l, .int (i : Int) 0] }
abbrev pairO (I : Addr) : Obj := { cls := .type "tuple", data := .seq #[.ref I] }
abbrev mapO (T : Addr) (f : Value) : Obj := { cls := .type "map", data := .fields #[.ref T, f] }
abbrev mapH1 (h : Heap) (l : Addr) : Heap := h.push { cls := .type "list_iterator", data := .fields #[.ref l, .int 0 0] }
abbrev mapH2 (h : Heap) (l : Addr) : Heap := (mapH1 h l).push (pairO h.objs.size)
abbrev mapH3 (h : Heap) (l : Addr) (f : Value) : Heap := (mapH2 h l).push (mapO (mapH1 h l).objs.size f)
theorem meets_map_new (f : Value) (l : Addr) (xs : Array Value) :
    Meets (Builtin.«map.__new__» ⟨[.type "map", f, .ref l], []⟩) (fun _ R s => s.heap.IsList l xs ∧
      R (.ok (.ret (.ref (mapH2 s.heap l).objs.size))) { s with heap := mapH3 s.heap l f }) :=
  .of_wp fun prog w A R s h => by
    obtain ⟨hp, g, d, tk, os⟩ := s; obtain ⟨hl1, h⟩ := h
    have hsub := sub_map
    have hL1 : Heap.IsList (Shared.heap ⟨hp, g, d, tk, os⟩) l xs := hl1
    wp_walk using wpAny_pyIter_list hL1
    exact ⟨_, rfl, h⟩
section
variable {prog : Program} {w : World} {A : Around} {E : Value → Shared → Prop} {s : Shared} {h₀ : Heap} {L l : Addr} {m : Str → Option Value} {news : List (Addr × Obj)} {Q : Value → Shared → Prop}
theorem mapNew {f : Value} {vs : List Value} {n : Nat} (F : Fr h₀ L s.heap m) (N : News h₀ L s.heap news) (hl : (l, listOf vs.toArray n) ∈ news)
    (h : ∀ I T M h', Fr h₀ L h' m → News h₀ L h' ((M, mapO T f) :: (T, pairO I) :: (I, iterO l 0) :: news) → (∀ p ∈ news, p.1 < I) → @LT.lt Nat _ I T → @LT.lt Nat _ T M → Q (.ref M) { s with heap := h' }) :
    wpAny (model prog w) A (call (.type "map") [f, .ref l]) Q E s := by
  refine callType_new called_map (by decide) (typeCall_map_2 _ _) (newCall_map_2 _ _) (fun obj => PySem.F.args_object_init_3 obj _ _) entry_map_new
    (meets_map_new f l vs.toArray) ⟨lstAt N hl, ?_⟩
  have hn : ∀ p ∈ news, p.1 < s.heap.objs.size := fun p hp => Heap.lt_size (N p hp).1
  have F1 := F.push { cls := .type "list_iterator", data := .fields #[.ref l, .int 0 0] }
  have N1 := News.push F N { cls := .type "list_iterator", data := .fields #[.ref l, .int 0 0] } rfl
  have F2 := F1.push (pairO s.heap.objs.size)
  have N2 := News.push F1 N1 (pairO s.heap.objs.size) rfl
  have F3 := F2.push (mapO (mapH1 s.heap l).objs.size f)
  have N3 := News.push F2 N2 (mapO (mapH1 s.heap l).objs.size f) rfl
  refine ⟨⟨_, Heap.get?_push_size _ rfl, rfl⟩, h _ _ _ _ F3 N3 hn ?_ ?_⟩
  · rw [Heap.size_push]; exact Nat.lt_succ_self _
  · rw [Heap.size_push (mapH1 s.heap l)]; exact Nat.lt_succ_self _
end
theorem At.unitsN {n k : Nat} (hk : k ≤ 8) {w : World} {mean : ExcName → Option Value} {mg mb : Str → Option Value} {dp un : Nat} {gd : Option (List Code)} {outs : List Env} {base h : Heap} (C : At (n + 1) w mean mg mb dp un gd outs base h) : At n w mean mg mb dp (un + k) gd outs base h :=
  ⟨rfl, ⟨C.B.stack, C.B.stays, C.B.frames⟩, C.X, C.T, by have := C.d; omega, by have := C.u; omega⟩
section
variable {w : World} {mean : ExcName → Option Value} {mg mb : Str → Option Value} {dp un : Nat} {gd : Option (List Code)} {outs : List Env} {base h₀ : Heap} {L l : Addr} {m : Str → Option Value} {env : Env} {s : Shared} {E : Value → Shared → Prop}
theorem mapItem {I T M : Addr} {i n : Nat} {vs : List Value} {x : Str} {t : Tok} {news : List (Addr × Obj)} {Q : Option Value → Shared → Prop} (C : At 5 w mean mg mb dp un gd outs base h₀) (F : Fr h₀ L s.heap m) (hf : env.frame = some L) (hkf : env.scope.kind = .function)
    (N : News h₀ L s.heap ((I, iterO l i) :: (M, mapO T (.ref 94)) :: (T, pairO I) :: news)) (hl : (l, listOf vs.toArray n) ∈ news) (hx : vs[i]? = some (.str x t)) (hnI : ∀ p ∈ (M, mapO T (.ref 94)) :: (T, pairO I) :: news, p.1 ≠ I)
    (h : ∀ t' h' tk, Fr h₀ L h' m → News h₀ L h' ((I, iterO l (i + 1)) :: (M, mapO T (.ref 94)) :: (T, pairO I) :: news) → Q (some (.str x t')) { s with heap := h', toks := tk }) :
    wpAny (model PRG w) (ar (dp + 1) (un + 3) gd (env :: outs)) (pyNext (.ref M)) Q E s := by
  have oM := N (M, mapO T (.ref 94)) (by simp)
  have oT := N (T, pairO I) (by simp)
  have oI := N (I, iterO l i) (by simp)
  have oL := N (l, listOf vs.toArray n) (by simp [hl])
  have tM : s.TypeIs (.ref M) "map" := ⟨_, oM.1, rfl⟩
  have tI : s.heap.IsListIter I l i := ⟨_, oI.1, rfl, rfl⟩
  unfold pyNext
  refine wpAny_bind (wpAny_attempt (wpAny_callSpecial?_slot (name := Str.ofString "__next__") tM slot_map_next (wpAny_call_entry slot_map_next tM entry_map_next ?_ (args_map_next _))))
  show wpAny _ _ (field (.ref M) 0 >>= _) _ _ s
  refine wpAny_bind (wpAny_field oM.1 rfl (x := .ref T) rfl ?_)
  show wpAny _ _ (seqItems? (.ref T) >>= _) _ _ s
  refine wpAny_bind (wpAny_seqItems oT.1 rfl ?_)
  show wpAny _ _ ((forIn (#[Value.ref I] : Array Value) _ _) >>= _) _ _ s
  rw [← Array.forIn_toList]
  show wpAny _ _ ((forIn [Value.ref I] _ _) >>= _) _ _ s
  rw [List.forIn_cons]
  refine wpAny_bind (wpAny_bind ?_)
  (try dsimp only)
  refine wpAny_bind (wpAny_holding ?_)
  unfold Builtin.SmallTypes.nextOf
  refine wpAny_bind (wpAny_callSpecial?_slot (name := Str.ofString "__next__") tI.typeIs slot_listiter_next (wpAny_call_entry slot_listiter_next tI.typeIs entry_listiter_next ?_ (args_listiter_next _)))
  show wpAny _ _ (field (.ref I) 0 >>= _) _ _ s
  refine wpAny_bind (wpAny_field oI.1 rfl (x := .ref l) rfl ?_)
  show wpAny _ _ (if (Value.ref l == Value.none) = true then _ else _) _ _ s
  rw [if_neg (show ¬ ((Value.ref l == Value.none) = true) from Bool.false_ne_true)]
  show wpAny _ _ (field (.ref I) 1 >>= _) _ _ s
  refine wpAny_bind (wpAny_field oI.1 rfl (x := .int i 0) rfl ?_)
  show wpAny _ _ (seqItems? (.ref l) >>= _) _ _ s
  refine wpAny_bind (wpAny_seqItems oL.1 rfl ?_)
  simp only [Int.toNat_natCast, List.getElem?_toArray, hx]
  have hs := Heap.SameBut.update s.heap I (Obj.mapFields (·.setIfInBounds 1 (rawInt (i + 1))))
  have hI' := Heap.get?_update_self (Obj.mapFields (·.setIfInBounds 1 (rawInt (i + 1)))) oI.1 rfl
  refine wpAny_bind (wpAny_setField oI.1 rfl (by simp) (wpAny_pure ⟨.str x t, rfl, ?_⟩))
  have F1 := ksk_fr F hs oI.2.1 oI.2.2
  have N0 := ksk_news (fun p hp => N p (List.mem_cons_of_mem _ hp)) hs hnI
  have N1 : News h₀ L (s.heap.update I (Obj.mapFields (·.setIfInBounds 1 (rawInt (i + 1))))) ((I, iterO l (i + 1)) :: (M, mapO T (.ref 94)) :: (T, pairO I) :: news) := fun p hp => by
    rcases List.mem_cons.mp hp with rfl | hp
    · exact ⟨hI', oI.2⟩
    · exact N0 p hp
  refine wpAny_pure ?_
  (try dsimp only)
  refine wpAny_pure ?_
  (try dsimp only)
  rw [List.forIn_nil]
  refine wpAny_pure ?_
  (try dsimp only)
  refine wpAny_bind (wpAny_field (N1 (M, mapO T (.ref 94)) (by simp)).1 rfl (x := .ref 94) rfl ?_)
  refine wpAny_bind (wpAny_holding ?_)
  show wpAny _ _ (call (.ref 94) [.str x t]) _ _ _
  have C1 : At 4 w mean mg mb (dp + 1) (un + 3) gd (env :: outs) base _ := At.push C F1 hf hkf
  refine c_fspath (s := { s with heap := s.heap.update I (Obj.mapFields (·.setIfInBounds 1 (rawInt (i + 1)))) }) ((At.unitsN (k := 1) (by decide) C1).less (k := 1) (by decide)) fun t' h' tk hk => ?_
  refine wpAny_bind (wpAny_letGo (wpAny_pure ⟨_, rfl, ?_⟩))
  exact wpAny_pure (h t' h' tk (Fr.after F1 hk) (newsKeep N1 hk))
theorem mapStop {I T M : Addr} {i n : Nat} {vs : List Value} {news : List (Addr × Obj)} {Q : Option Value → Shared → Prop} (F : Fr h₀ L s.heap m)
    (N : News h₀ L s.heap ((I, iterO l i) :: (M, mapO T (.ref 94)) :: (T, pairO I) :: news)) (hl : (l, listOf vs.toArray n) ∈ news) (hx : vs[i]? = none) (hnI : ∀ p ∈ (M, mapO T (.ref 94)) :: (T, pairO I) :: news, p.1 ≠ I)
    (h : ∀ h' tk, Fr h₀ L h' m → News h₀ L h' news → Q none { s with heap := h', toks := tk }) :
    wpAny (model PRG w) (ar (dp + 1) (un + 3) gd (env :: outs)) (pyNext (.ref M)) Q E s := by
  have oM := N (M, mapO T (.ref 94)) (by simp)
  have oT := N (T, pairO I) (by simp)
  have oI := N (I, iterO l i) (by simp)
  have oL := N (l, listOf vs.toArray n) (by simp [hl])
  have tM : s.TypeIs (.ref M) "map" := ⟨_, oM.1, rfl⟩
  have tI : s.heap.IsListIter I l i := ⟨_, oI.1, rfl, rfl⟩
  unfold pyNext
  refine wpAny_bind (wpAny_attempt (wpAny_callSpecial?_slot (name := Str.ofString "__next__") tM slot_map_next (wpAny_call_entry slot_map_next tM entry_map_next ?_ (args_map_next _))))
  show wpAny _ _ (field (.ref M) 0 >>= _) _ _ s
  refine wpAny_bind (wpAny_field oM.1 rfl (x := .ref T) rfl ?_)
  show wpAny _ _ (seqItems? (.ref T) >>= _) _ _ s
  refine wpAny_bind (wpAny_seqItems oT.1 rfl ?_)
  show wpAny _ _ ((forIn (#[Value.ref I] : Array Value) _ _) >>= _) _ _ s
  rw [← Array.forIn_toList]
  show wpAny _ _ ((forIn [Value.ref I] _ _) >>= _) _ _ s
  rw [List.forIn_cons]
  refine wpAny_bind (wpAny_bind ?_)
  (try dsimp only)
  refine wpAny_bind (wpAny_holding ?_)
  unfold Builtin.SmallTypes.nextOf
  refine wpAny_bind (wpAny_callSpecial?_slot (name := Str.ofString "__next__") tI.typeIs slot_listiter_next (wpAny_call_entry slot_listiter_next tI.typeIs entry_listiter_next ?_ (args_listiter_next _)))
  show wpAny _ _ (field (.ref I) 0 >>= _) _ _ s
  refine wpAny_bind (wpAny_field oI.1 rfl (x := .ref l) rfl ?_)
  show wpAny _ _ (if (Value.ref l == Value.none) = true then _ else _) _ _ s
  rw [if_neg (show ¬ ((Value.ref l == Value.none) = true) from Bool.false_ne_true)]
  show wpAny _ _ (field (.ref I) 1 >>= _) _ _ s
  refine wpAny_bind (wpAny_field oI.1 rfl (x := .int i 0) rfl ?_)
  show wpAny _ _ (seqItems? (.ref l) >>= _) _ _ s
  refine wpAny_bind (wpAny_seqItems oL.1 rfl ?_)
  simp only [Int.toNat_natCast, List.getElem?_toArray, hx]
  have hs := Heap.SameBut.update s.heap I (Obj.mapFields (·.setIfInBounds 0 Value.none))
  have F1 := ksk_fr F hs oI.2.1 oI.2.2
  have N0 := ksk_news (fun p hp => N p (List.mem_cons_of_mem _ hp)) hs hnI
  refine wpAny_bind (wpAny_rule (wpAny_bind (wpAny_setField oI.1 rfl (by simp) ?_)))
  show wpAny _ _ (newExc (.type "StopIteration") [] >>= _) _ _ _
  refine wpAny_bind ?_
  simp only [newExc, newTuple]
  refine wpAny_bind (wpAny_newObj_type ?_ (by size_fits))
  refine wpAny_bind (m := firstArgMember _ _) (wpAny_of_eq (a := Value.none) (by first | rfl | (simp only [firstArgMember]; rfl)) ?_)
  refine wpAny_newObj_type ?_ (by size_fits)
  simp only [raiseNew]
  refine wpAny_bind (wpAny_handled ?_)
  rw [show (ar (dp + 1) (un + 3) gd (env :: outs)).in1.in1.handled = none from rfl]
  refine wpAny_bind (wpAny_pure (wpAny_throw ?_))
  refine wpAny_bind (wpAny_isInstance (T := "StopIteration") (b := true) ⟨_, Heap.get?_push_size _ rfl, rfl⟩ isSubtype_stop ?_)
  refine wpAny_pure (h _ _ ((F1.push _).push _) fun p hp => ?_)
  have := N0 p (List.mem_cons_of_mem _ (List.mem_cons_of_mem _ hp))
  exact ⟨Heap.get?_push_of_some _ (Heap.get?_push_of_some _ this.1), this.2⟩
theorem mapGo {I T M S : Addr} {n : Nat} {vs : List Value} {xs : List Str} {news : List (Addr × Obj)} {R : Result → Shared → Prop} {res : Value} (C : At 6 w mean mg mb dp un gd outs base h₀) (hf : env.frame = some L) (hkf : env.scope.kind = .function)
    (hl : (l, listOf vs.toArray n) ∈ news) (hS : StrsAre vs xs) (h5 : vs.length ≤ 100) (hnI : ∀ p ∈ (M, mapO T (.ref 94)) :: (T, pairO I) :: news, p.1 ≠ I) (hnS : ∀ p ∈ (M, mapO T (.ref 94)) :: (T, pairO I) :: news, p.1 ≠ S) (hSI : S ≠ I)
    (h : ∀ acc c h' tk, Fr h₀ L h' m → News h₀ L h' ((S, seqObj "list" (List.toArray acc) c) :: news) → StrsAre acc xs → R (.ok (.ret res)) { s with heap := h', toks := tk }) :
    ∀ (r i : Nat) (acc : List Value) (c : Nat) (hh : Heap) (tk : Nat), i + r = vs.length → Fr h₀ L hh m → News h₀ L hh ((S, seqObj "list" (List.toArray acc) c) :: (I, iterO l i) :: (M, mapO T (.ref 94)) :: (T, pairO I) :: news) → StrsAre acc (xs.take i) →
      codeAny (model PRG w) (ar (dp + 1) (un + 3) gd (env :: outs)) (.builtin "list.extend.loop" ⟨[.ref S, .ref M, res], []⟩) R { s with heap := hh, toks := tk } := by
  have hvl := hS.length
  intro r
  induction r with
  | zero =>
    intro i acc c hh tk hi F N hA
    refine codeAny_builtin PySem.F.entry_extend_loop ?_
    rw [Around.under_plainId PySem.F.plain_extend_loop _]
    show wpAny _ _ (pyNext (.ref M) >>= _) _ _ _
    have N2 : News h₀ L hh ((I, iterO l i) :: (M, mapO T (.ref 94)) :: (T, pairO I) :: ((S, seqObj "list" (List.toArray acc) c) :: news)) := fun p hp => N p (by
      simp only [List.mem_cons] at hp ⊢
      rcases hp with h | h | h | h | h
      · exact .inr (.inl h)
      · exact .inr (.inr (.inl h))
      · exact .inr (.inr (.inr (.inl h)))
      · exact .inl h
      · exact .inr (.inr (.inr (.inr h))))
    refine wpAny_bind (mapStop (un := un + 1) (s := { s with heap := hh, toks := tk }) F N2 (List.mem_cons_of_mem _ hl) (List.getElem?_eq_none (by omega)) (fun p hp => ?_) fun h' tk' F' N' => ?_)
    · simp only [List.mem_cons] at hp
      rcases hp with h | h | h | h
      · exact hnI p (by simp [h])
      · exact hnI p (by simp [h])
      · rw [h]; exact hSI
      · exact hnI p (by simp [h])
    · rw [List.take_of_length_le (by omega)] at hA
      exact wpAny_pure (h acc c h' tk' F' N' hA)
  | succ r ih =>
    intro i acc c hh tk hi F N hA
    have hacc := hA.length
    rw [List.length_take] at hacc
    obtain ⟨x, hxi⟩ : ∃ x, xs[i]? = some x := ⟨_, List.getElem?_eq_getElem (by omega)⟩
    obtain ⟨t, ht⟩ := hS.get i x hxi
    refine codeAny_builtin PySem.F.entry_extend_loop ?_
    rw [Around.under_plainId PySem.F.plain_extend_loop _]
    show wpAny _ _ (pyNext (.ref M) >>= _) _ _ _
    have N2 : News h₀ L hh ((I, iterO l i) :: (M, mapO T (.ref 94)) :: (T, pairO I) :: ((S, seqObj "list" (List.toArray acc) c) :: news)) := fun p hp => N p (by
      simp only [List.mem_cons] at hp ⊢
      rcases hp with h | h | h | h | h
      · exact .inr (.inl h)
      · exact .inr (.inr (.inl h))
      · exact .inr (.inr (.inr (.inl h)))
      · exact .inl h
      · exact .inr (.inr (.inr (.inr h))))
    refine wpAny_bind (mapItem (un := un + 1) (s := { s with heap := hh, toks := tk }) (At.unitsN (k := 1) (by decide) C) F hf hkf N2 (List.mem_cons_of_mem _ hl) ht (fun p hp => ?_) fun t' h' tk' F' N' => ?_)
    · simp only [List.mem_cons] at hp
      rcases hp with h | h | h | h
      · exact hnI p (by simp [h])
      · exact hnI p (by simp [h])
      · rw [h]; exact hSI
      · exact hnI p (by simp [h])
    · have oS := N' (S, seqObj "list" (List.toArray acc) c) (by simp)
      have hs := Heap.SameBut.update h' S (Obj.mapSeq (·.push (.str x t')))
      obtain ⟨c2, hc2⟩ : ∃ c2, (h'.update S (Obj.mapSeq (·.push (.str x t')))).get? S = some (seqObj "list" (List.toArray (acc ++ [.str x t'])) c2) := ⟨_, by
        have ea : (List.toArray acc).push (.str x t') = List.toArray (acc ++ [.str x t']) := by simp
        rw [← ea]; exact get?_update_seq oS.1 (·.push (.str x t'))⟩
      show wpAny _ _ (updateSeq S (·.push (.str x t')) >>= _) _ _ _
      refine wpAny_bind ?_
      refine wpAny_updateSeq oS.1 rfl (wpAny_pure ⟨plainId_quiet PySem.F.plain_extend_loop _, ih (i + 1) (acc ++ [.str x t']) c2 _ tk' (by omega) (ksk_fr F' hs oS.2.1 oS.2.2) (fun p hp => ?_) ?_⟩) (by rw [List.size_toArray, sizeLine_eq]; omega) (by show (Array.push _ _).size ≤ _; rw [Array.size_push, List.size_toArray, sizeLine_eq]; omega)
      · rcases List.mem_cons.mp hp with rfl | hp
        · exact ⟨hc2, oS.2⟩
        · refine ksk_news (news := (I, iterO l (i + 1)) :: (M, mapO T (.ref 94)) :: (T, pairO I) :: news) (fun q hq => N' q ?_) hs (fun q hq => ?_) p hp
          · simp only [List.mem_cons] at hq ⊢
            rcases hq with h | h | h | h
            · exact .inl h
            · exact .inr (.inl h)
            · exact .inr (.inr (.inl h))
            · exact .inr (.inr (.inr (.inr h)))
          · rcases List.mem_cons.mp hq with rfl | hq
            · exact hSI.symm
            · exact hnS q hq
      · rw [List.take_add_one, hxi]
        exact hA.append' (.cons x t' .nil)
end
end Mine
end
section
open PySem PySem.W PyProof.Rows PySem.Calls
set_option Elab.async false
set_option maxRecDepth 100000
set_option maxHeartbeats 4000000
namespace Mine
section
variable {w : World} {mean : ExcName → Option Value} {mg mb : Str → Option Value} {dp un : Nat} {gd : Option (List Code)} {outs : List Env} {base h₀ : Heap} {L l : Addr} {m : Str → Option Value} {env : Env} {s : Shared} {E : Value → Shared → Prop}
theorem iter_map {M : Addr} {o : Obj} {A : Around} {Q : Value → Shared → Prop} (ho : s.heap.get? M = some o) (hc : o.cls = .type "map") (h : Q (.ref M) s) : wpAny (model PRG w) A (pyIter (.ref M)) Q E s := by
  have hT : s.TypeIs (.ref M) "map" := ⟨_, ho, hc⟩
  refine wpAny_pyIter_slot hT slot_map_iter (wpAny_call_entry slot_map_iter hT entry_map_iter ?_ (args_map_iter _))
  show wpAny _ _ (ret (.ref M)) _ _ s
  exact wpAny_pure ⟨_, rfl, "map", _, hT, slot_map_next.lookup, h⟩
theorem collectMap {I T M : Addr} {n : Nat} {vs : List Value} {xs : List Str} {news : List (Addr × Obj)} {Q : List Value → Shared → Prop} (C : At 6 w mean mg mb dp un gd outs base h₀) (F : Fr h₀ L s.heap m) (hf : env.frame = some L) (hkf : env.scope.kind = .function)
    (N : News h₀ L s.heap ((M, mapO T (.ref 94)) :: (T, pairO I) :: (I, iterO l 0) :: news)) (hl : (l, listOf vs.toArray n) ∈ news) (hS : StrsAre vs xs) (h5 : vs.length ≤ 100) (hnI : ∀ p ∈ (M, mapO T (.ref 94)) :: (T, pairO I) :: news, p.1 ≠ I)
    (h : ∀ acc h' tk, Fr h₀ L h' m → News h₀ L h' news → StrsAre acc xs → Q acc { s with heap := h', toks := tk }) :
    wpAny (model PRG w) (ar (dp + 1) (un + 3) gd (env :: outs)) (collect (.ref M)) Q E s := by
  unfold collect
  refine wpAny_bind (wpAny_runValue (codeAny_builtin PySem.F.entry_proto_collect ?_))
  rw [Around.under_plainId PySem.F.plain_proto_collect _]
  show wpAny _ _ (newList [] >>= fun l => again (.builtin "list.__iadd__" ⟨[l, .ref M], []⟩)) _ _ s
  refine wpAny_bind (wpAny_newObj_type ?_)
  refine wpAny_pure ⟨plainId_quiet PySem.F.plain_list_iadd _, codeAny_builtin PySem.F.entry_list_iadd ?_⟩
  rw [Around.under_plainId PySem.F.plain_list_iadd _]
  have hlt : ∀ p ∈ (M, mapO T (.ref 94)) :: (T, pairO I) :: (I, iterO l 0) :: news, p.1 ≠ s.heap.objs.size := fun p hp => Nat.ne_of_lt (Heap.lt_size (N p hp).1)
  have F1 := F.push ({ cls := .type "list", data := .seq ([] : List Value).toArray } : Obj)
  have N1 := News.push F N ({ cls := .type "list", data := .seq ([] : List Value).toArray } : Obj) rfl
  generalize hSd : s.heap.objs.size = S at *
  generalize s.heap.push ({ cls := .type "list", data := .seq ([] : List Value).toArray } : Obj) = g1 at *
  show wpAny _ _ (Builtin.List.listExtendWith (.ref S) (.ref M) (.ref S)) _ _ _
  have oM := N1 (M, mapO T (.ref 94)) (by simp)
  have oS := N1 (S, _) (List.mem_cons_self ..)
  have tM : Shared.TypeIs { s with heap := g1 } (.ref M) "map" := ⟨_, oM.1, rfl⟩
  unfold Builtin.List.listExtendWith
  refine wpAny_bind (wpAny_typeOf tM ?_)
  have hSM : S ≠ M := fun e => hlt (M, _) (List.mem_cons_self ..) e.symm
  have h1 : Builtin.List.listSameRef (.ref S) (.ref M) = false := by simp [Builtin.List.listSameRef, hSM]
  have h2 : (Value.type "map" == Value.type "list") = false := by decide
  have h3 : (Value.type "map" == Value.type "tuple") = false := by decide
  simp only [h1, h2, h3, Bool.or_false, Bool.false_eq_true, if_false]
  refine wpAny_bind (iter_map (s := { s with heap := g1 }) oM.1 rfl ?_)
  refine wpAny_bind (wpAny_holding ?_)
  unfold Builtin.List.listLengthHint
  refine wpAny_bind (wpAny_specialOf tM nolen_map ?_)
  show wpAny _ _ (specialOf (Value.ref M) (Str.ofString "__length_hint__") >>= _) _ _ _
  refine wpAny_bind (wpAny_specialOf tM nohint_map ?_)
  refine wpAny_pure ?_
  show wpAny _ _ (rule "list.extend.makes-room" >>= fun _ => Builtin.List.listTouch (.ref S) >>= fun _ =>
    again (.builtin "list.extend.loop" ⟨[.ref S, .ref M, .ref S], []⟩)) _ _ _
  refine wpAny_bind (wpAny_rule ?_)
  refine wpAny_bind ?_
  show wpAny _ _ (updateSeq S (·.push .none) >>= fun _ => updateSeq S (·.pop)) _ _ _
  have s1 := Heap.SameBut.update g1 S (Obj.mapSeq (·.push Value.none))
  have a1 := get?_update_seq oS.1 (·.push Value.none)
  refine wpAny_bind (wpAny_updateSeq oS.1 rfl ?_ (by decide) (by decide))
  generalize g1.update S (Obj.mapSeq (·.push Value.none)) = g2 at *
  have s2 := Heap.SameBut.update g2 S (Obj.mapSeq (·.pop))
  have a2 := get?_update_seq a1 (·.pop)
  refine wpAny_updateSeq a1 rfl ?_ (by decide) (by decide)
  generalize g2.update S (Obj.mapSeq (·.pop)) = g3 at *
  have F3 := ksk_fr (ksk_fr F1 s1 oS.2.1 oS.2.2) s2 oS.2.1 oS.2.2
  have N3 := ksk_news (ksk_news (fun p hp => N1 p (List.mem_cons_of_mem _ hp)) s1 hlt) s2 hlt
  have hnS : ∀ p ∈ (M, mapO T (.ref 94)) :: (T, pairO I) :: news, p.1 ≠ S := fun p hp => hlt p (by
    simp only [List.mem_cons] at hp ⊢
    rcases hp with h | h | h
    · exact .inl h
    · exact .inr (.inl h)
    · exact .inr (.inr (.inr h)))
  obtain ⟨c3, a3⟩ : ∃ c, g3.get? S = some (seqObj "list" (List.toArray []) c) := ⟨_, a2⟩
  refine wpAny_pure ⟨plainId_quiet PySem.F.plain_extend_loop _, mapGo (n := n) C hf hkf hl hS h5 hnI hnS (fun e => hlt (I, iterO l 0) (by simp) e.symm) ?_ vs.length 0 [] c3 g3 s.toks (by omega) F3 (fun p hp => ?_) (by simpa using StrsAre.nil)⟩
  · intro acc c h' tk F' N' hA
    show wpAny _ _ (load S >>= _) _ _ _
    refine wpAny_bind (wpAny_load (N' (S, _) (List.mem_cons_self ..)).1 ?_)
    exact wpAny_pure (h acc h' tk F' (fun p hp => N' p (List.mem_cons_of_mem _ hp)) hA)
  · simp only [List.mem_cons] at hp
    rcases hp with rfl | h | h | h | h
    · exact ⟨a3, oS.2⟩
    · exact N3 p (by simp [h])
    · exact N3 p (by simp [h])
    · exact N3 p (by simp [h])
    · exact N3 p (by simp [h])
theorem tupleMap {I T M : Addr} {n : Nat} {vs : List Value} {xs : List Str} {news : List (Addr × Obj)} {Q : Value → Shared → Prop} (C : At 7 w mean mg mb dp un gd outs base h₀) (F : Fr h₀ L s.heap m) (hf : env.frame = some L) (hkf : env.scope.kind = .function)
    (N : News h₀ L s.heap ((M, mapO T (.ref 94)) :: (T, pairO I) :: (I, iterO l 0) :: news)) (hl : (l, listOf vs.toArray n) ∈ news) (hS : StrsAre vs xs) (h5 : vs.length ≤ 100) (hnI : ∀ p ∈ (M, mapO T (.ref 94)) :: (T, pairO I) :: news, p.1 ≠ I)
    (h : ∀ D acc h' tk, Fr h₀ L h' m → News h₀ L h' ((D, ({ cls := .type "tuple", data := .seq (List.toArray acc) } : Obj)) :: news) → (∀ p ∈ news, p.1 < D) → StrsAre acc xs → Q (.ref D) { s with heap := h', toks := tk }) :
    wpAny (model PRG w) (ar (dp + 1) (un + 3) gd (env :: outs)) (call (.type "tuple") [.ref M]) Q E s := by
  refine callType_codes (Q₁ := fun obj s₁ => s₁.TypeIs obj "tuple" ∧ Q obj s₁) PySem.F.called_tuple (PySem.F.typeCall_tuple_1 _) PySem.F.entry_object_init ?_ fun obj s₁ h₁ => ?_
  · refine codeAny_of_tree ?_
    show wpAny _ _ (do checkBuiltinCall "tuple.__new__" ⟨[.type "tuple", .ref M], []⟩; again (.builtin "tuple.__new__" ⟨[.type "tuple", .ref M], []⟩)) _ _ s
    refine wpAny_bind (wpAny_of_eq (PySem.F.newCall_tuple_1 _) (wpAny_pure ⟨plainId_quiet PySem.F.plain_tuple_new _, codeAny_builtin PySem.F.entry_tuple_new ?_⟩))
    rw [Around.under_plainId PySem.F.plain_tuple_new _]
    have hsub := sub_tuple_self
    have hinit := init_tuple_lookup
    have hmh := madeHere_tuple
    have hTI : s.TypeIs (.ref M) "map" := ⟨_, (N (M, _) (List.mem_cons_self ..)).1, rfl⟩
    have hcm := @collectMap w mean mg mb dp (un + 2) gd outs base h₀ L l m env s
    wp_walk using wpAny_typeOf hTI, (hcm (At.unitsN (k := 2) (by decide) C) F hf hkf N hl hS h5 hnI)
    intro acc h' tk F' N' hA
    have hvl := hS.length
    have hal := hA.length
    show wpAny _ _ (Builtin.Tuple.tupleExact acc.toArray >>= fun v => ret v) _ _ _
    unfold Builtin.Tuple.tupleExact
    refine wpAny_bind (wpAny_newObj_type ?_ (by show acc.toArray.size ≤ sizeLine; rw [List.size_toArray, sizeLine_eq]; omega))
    refine wpAny_pure ?_
    exact ⟨⟨_, Heap.get?_push_size _ rfl, rfl⟩, h _ acc _ _ (F'.push _) (News.push F' N' _ rfl) (fun p hp => Heap.lt_size (N' p hp).1) hA⟩
  · exact ⟨h₁.1, PySem.F.args_object_init_2 obj _, object_init_meets PySem.F.called_tuple.init.lookup PySem.F.called_tuple.made (by decide) PRG w _ _ s₁ ⟨h₁.1, rfl, h₁.2⟩⟩
end
end Mine
end
section
open PySem PySem.W PyProof.Rows PySem.Calls PyProof.Rows.LCg
set_option Elab.async false
set_option maxRecDepth 100000
set_option maxHeartbeats 4000000
namespace Mine
abbrev set0 (led : Bool) : Obj := { cls := .type "set", dict := none, data := .set #[] 0 (.fresh 0 0 led) }
abbrev tab1 (led : Bool) : SetTable := { mask := 7, place := #[1], dummies := #[], finger := 0, led := led, moves := 0, plain := true }
abbrev set1 (led : Bool) : Obj := { cls := .type "set", dict := none, data := .set #[(1, .bool true)] 1 (tab1 led) }
abbrev setN (led : Bool) : Nat → Obj
  | 0 => set0 led
  | _ + 1 => set1 led
theorem lay0 (led : Bool) : layNew (.fresh 0 0 led) #[] 1 (.bool true) = (#[(1, .bool true)], tab1 led, false, false) := by cases led <;> kernel_rfl
section
variable {prog : Program} {w : World} {A : Around} {E : Value → Shared → Prop} {s : Shared}
theorem hash_true {Q : Int → Shared → Prop} (h : Q 1 { s with toks := s.toks + 1 }) : wpAny (model prog w) A (pyHash (.bool true)) Q E s := by
  unfold pyHash pyHashByItsType
  have hv : [Value.bool true].any Value.onHeap = false := rfl
  refine wpAny_bind ?_
  rw [cRoomFor, if_neg (by rw [hv]; exact Bool.false_ne_true)]; refine wpAny_pure ?_
  have tb : s.TypeIs (.bool true) "bool" := rfl
  refine wpAny_bind (wpAny_specialOf tb PySem.F.slot_bool_hash.lookup ?_)
  show wpAny _ _ (if (some (Value.builtin "int.__hash__") == some Value.none) = true then _ else _) Q E s
  rw [if_neg (by rw [beq_builtin_none]; exact Bool.false_ne_true)]
  refine wpAny_bind (wpAny_specialOf tb PySem.F.slot_bool_hash.lookup ?_)
  show wpAny _ _ (callSpecialIfBoundUnlessNone? (.bool true) "__hash__" _ >>= _) Q E s
  refine wpAny_bind (wpAny_callSpecialIfBoundUnlessNone?_slot tb PySem.F.slot_bool_hash
    (wpAny_call_entry PySem.F.slot_bool_hash tb entry_int_hash
      (show wpAny _ _ (do ret (← mkInt 1)) _ _ s from wpAny_ret_mkInt ?_) (args_int_hash _)))
  exact wpAny_pure h
theorem eq_true {Q : Bool → Shared → Prop} (h : Q true s) : wpAny (model prog w) A (eqBool (.bool true) (.bool true)) Q E s := by
  unfold eqBool
  refine wpAny_holding ?_
  rw [if_pos (by decide)]
  exact wpAny_bind (wpAny_rule (wpAny_pure h))
theorem setAdd0 {D : Addr} {led : Bool} {Q : Value → Shared → Prop} (ho : s.heap.get? D = some (set0 led)) (h : ∀ h', h'.get? D = some (set1 led) → Heap.SameBut D s.heap h' → Q .none { s with heap := h', toks := s.toks + 1 }) :
    wpAny (model prog w) A (call (.builtin "set.add") [.ref D, .bool true]) Q E s := by
  have hT : s.TypeIs (.ref D) "set" := ⟨_, ho, rfl⟩
  refine wpAny_call_entry PySem.F.slot_set_add hT PySem.F.entry_set_add ?_ (PySem.F.args_set_add_2 _ _)
  unfold Builtin.«set.add» Builtin.Frozenset.oneOther
  simp only [List.isEmpty_nil, bind_assoc]
  unfold Builtin.Frozenset.addrOf setAdd
  refine wpAny_bind (wpAny_pure ?_)
  try dsimp only
  refine wpAny_bind (wpAny_pure ?_)
  try dsimp only
  refine wpAny_bind ?_
  refine wpAny_holding ?_
  refine wpAny_bind (hash_true ?_)
  unfold setAddHashed setAddHashedIn
  refine wpAny_holding (wpAny_bind (wpAny_setState_of (s := { s with toks := s.toks + 1 }) ho rfl rfl ?_))
  dsimp only
  rw [show byScan (.bool true) #[] = true from by kernel_rfl]
  simp only [↓reduceIte]
  unfold setAddByScan
  refine wpAny_bind ?_
  refine wpAny_bind (wpAny_rule ?_)
  refine wpAny_bind (m := setScan D (.bool true) 1 true #[]) (wpAny_pure ?_)
  dsimp only
  refine wpAny_bind (wpAny_pure ?_)
  rw [lay0]
  dsimp only
  refine wpAny_bind (wpAny_pure ?_)
  simp only [↓reduceIte]
  refine wpAny_bind (wpAny_storeSet_of (s := { s with toks := s.toks + 1 }) ho rfl ?_ (by show (1 : Nat) ≤ _; rw [sizeLine_eq]; omega))
  rw [show (!false && (tab1 led).tooFull) = false from rfl]
  simp only [Bool.false_eq_true, ↓reduceIte]
  refine wpAny_pure ?_
  dsimp only
  refine wpAny_pure ?_
  show wpAny _ _ (ret Value.none) _ _ _
  have hg : (s.heap.update D (Obj.putSet #[(1, .bool true)] (tab1 led))).get? D = some (set1 led) := by
    have := Heap.get?_update_self (Obj.putSet #[(1, .bool true)] (tab1 led)) ho (by rw [putSet_of _ _ rfl]; rfl)
    rw [putSet_of _ _ rfl] at this
    exact this
  exact wpAny_pure ⟨_, rfl, h _ hg (Heap.SameBut.update ..)⟩
theorem setAdd1 {D : Addr} {led : Bool} {Q : Value → Shared → Prop} (ho : s.heap.get? D = some (set1 led)) (h : Q .none { s with toks := s.toks + 1 }) :
    wpAny (model prog w) A (call (.builtin "set.add") [.ref D, .bool true]) Q E s := by
  have hT : s.TypeIs (.ref D) "set" := ⟨_, ho, rfl⟩
  refine wpAny_call_entry PySem.F.slot_set_add hT PySem.F.entry_set_add ?_ (PySem.F.args_set_add_2 _ _)
  unfold Builtin.«set.add» Builtin.Frozenset.oneOther
  simp only [List.isEmpty_nil, bind_assoc]
  unfold Builtin.Frozenset.addrOf setAdd
  refine wpAny_bind (wpAny_pure ?_)
  try dsimp only
  refine wpAny_bind (wpAny_pure ?_)
  try dsimp only
  refine wpAny_bind ?_
  refine wpAny_holding ?_
  refine wpAny_bind (hash_true ?_)
  unfold setAddHashed setAddHashedIn
  refine wpAny_holding (wpAny_bind (wpAny_setState_of (s := { s with toks := s.toks + 1 }) ho rfl rfl ?_))
  dsimp only
  rw [show byScan (.bool true) #[(1, .bool true)] = true from by kernel_rfl]
  simp only [↓reduceIte]
  unfold setAddByScan
  refine wpAny_bind ?_
  refine wpAny_bind (wpAny_rule ?_)
  refine wpAny_bind ?_
  unfold setScan
  dsimp only
  unfold setScanFrom
  rw [if_pos (by decide)]
  unfold setEpoch
  refine wpAny_bind (wpAny_bind (wpAny_setState_of (s := { s with toks := s.toks + 1 }) ho rfl rfl (wpAny_pure ?_)))
  refine wpAny_bind (eq_true ?_)
  simp only [Bool.and_self, ↓reduceIte]
  refine wpAny_pure ?_
  dsimp only
  refine wpAny_pure ?_
  dsimp only
  refine wpAny_pure ?_
  show wpAny _ _ (ret Value.none) _ _ _
  exact wpAny_pure ⟨_, rfl, h⟩
theorem setAddN {D : Addr} {led : Bool} {i : Nat} {Q : Value → Shared → Prop} (ho : s.heap.get? D = some (setN led i)) (h : ∀ h', h'.get? D = some (setN led (i + 1)) → Heap.SameBut D s.heap h' → Q .none { s with heap := h', toks := s.toks + 1 }) :
    wpAny (model prog w) A (call (.builtin "set.add") [.ref D, .bool true]) Q E s := by
  cases i with
  | zero => exact setAdd0 ho h
  | succ i => exact setAdd1 ho (h s.heap ho (Heap.SameBut.refl _ _))
end
end Mine
end
section
open PySem PySem.W PyProof.Rows PySem.Calls PyProof.Rows.LCg
set_option Elab.async false
set_option maxRecDepth 100000
set_option maxHeartbeats 4000000
namespace Mine
theorem compTurn_set (elt target iter : PySem.Expr) (ifs : List PySem.Expr) (scope : Scope) (pos : Pos) (it acc : Value) (env : Env) :
    compTurn (.SetComp elt [⟨target, iter, ifs, 0⟩] scope pos) 0 it acc env = (do
      standAt iter.pos
      match ← pyNext it with
      | none => pure (.done .next)
      | some v =>
        letOwnedTupleGo target it v
        assign target env v
        let mut ok := true
        for c in ifs do
          if ok then ok ← isTrue c env (eval c env)
        if ok then
          (do let v ← eval elt env; standAt elt.pos; let _ ← call (.builtin "set.add") [acc, v])
        again (.compLoop (.SetComp elt [⟨target, iter, ifs, 0⟩] scope pos) 0 it acc env)) := by rfl
section
variable {prog : Program} {w : World} {A : Around} {E : Value → Shared → Prop} {s : Shared} {h₀ : Heap} {L : Addr} {m : Str → Option Value} {env : Env}
theorem compLoopS {R : Result → Shared → Prop} {elt target iter : PySem.Expr} {scope : Scope} {pos : Pos} {it acc : Value} (I : Nat → Shared → Prop)
    (turn : ∀ n s, I n s → wpAny (model prog w) A (pyNext it) (fun r s₁ => match r with
      | none => R (.ok .next) s₁
      | some v => wpAny (model prog w) A (assign target env v) (fun _ s₂ => wpAny (model prog w) A (eval elt env) (fun x s₄ =>
              wpAny (model prog w) A (call (.builtin "set.add") [acc, x]) (fun _ s₅ => ∃ m, m < n ∧ I m s₅) (notedBy (model prog w) A env fun e s' => R (.error e) s') s₄) (notedBy (model prog w) A env fun e s' => R (.error e) s') s₂) (notedBy (model prog w) A env fun e s' => R (.error e) s') s₁) (notedBy (model prog w) A env fun e s' => R (.error e) s') s)
    (n : Nat) (h : I n s) (ht : ∀ v, letOwnedTupleGo target it v = pure () := by intro _; rfl) :
    codeAny (model prog w) A (.compLoop (.SetComp elt [⟨target, iter, [], 0⟩] scope pos) 0 it acc env) R s := by
  refine codeAny_loop rfl I (fun n s hI => ?_) n h
  show wpAny _ A ((compTurn (.SetComp elt [⟨target, iter, [], 0⟩] scope pos) 0 it acc env).onRaise (fun x => do noteFrame x env; theTreesLotGoes x)) _ _ s
  refine wpAny_noted ?_
  rw [compTurn_set]
  refine wpAny_bind (wpAny_standAt (wpAny_bind (wpAny_mono (turn n s hI) (fun r s₁ h₁ => ?_) fun _ _ h' => h')))
  cases r with
  | none => exact wpAny_pure h₁
  | some v =>
    refine wpAny_bind (wpAny_of_eq (ht v) ?_)
    refine wpAny_bind (wpAny_mono h₁ (fun _ s₂ h₂ => ?_) fun _ _ h' => h')
    refine wpAny_bind (wpAny_tests_nil ?_)
    dsimp only
    rw [if_pos rfl]
    refine wpAny_bind ?_
    refine wpAny_bind (wpAny_mono h₂ (fun x s₄ h₄ => ?_) fun _ _ h' => h')
    refine wpAny_bind (wpAny_standAt ?_)
    exact wpAny_bind (wpAny_mono h₄ (fun _ s₅ h₅ => wpAny_pure (wpAny_pure ⟨rfl, h₅⟩)) fun _ _ h' => h')
theorem compStartS {R : Result → Shared → Prop} {elt target iter : PySem.Expr} {scope : Scope} {pos : Pos} {it acc : Value}
    (h0 : codeAny (model prog w) A (.compLoop (.SetComp elt [⟨target, iter, [], 0⟩] scope pos) 0 it acc env) R s)
    (h : wpAny (model prog w) A (pyIter it) (fun it' s' => codeAny (model prog w) A (.compLoop (.SetComp elt [⟨target, iter, [], 0⟩] scope pos) 0 it' acc env) R s')
      (notedBy (model prog w) A env fun x s' => R (.error x) s') s) :
    codeAny (model prog w) A (.compStart (.SetComp elt [⟨target, iter, [], 0⟩] scope pos) 0 it acc env) R s := by
  refine codeAny_of_tree ?_
  show wpAny _ _ ((compStart (.SetComp elt [⟨target, iter, [], 0⟩] scope pos) 0 it acc env).onRaise (fun x => do noteFrame x env; standAt theWindowsPlace)) _ _ s
  refine wpAny_notedAt ?_
  unfold compStart
  show wpAny _ _ (ask >>= _) _ _ s
  refine wpAny_bind (wpAny_askSetting (wpAny_ite ?_))
  split
  · first
      | exact wpAny_bind (wpAny_pure (wpAny_pure (And.intro rfl h0)))
      | exact wpAny_pure (And.intro rfl h0)
  · first
      | exact wpAny_bind (wpAny_rule (wpAny_bind (wpAny_standAt (wpAny_bind (wpAny_mono h (fun it' s' h' => wpAny_pure (And.intro rfl h')) fun _ _ x => x)))))
      | (refine wpAny_bind (wpAny_rule ?_); show wpAny _ _ (standAt iter.pos >>= _) _ _ s; exact wpAny_bind (wpAny_standAt (wpAny_bind (wpAny_mono h (fun it' s' h' => wpAny_pure (And.intro rfl h')) fun _ _ x => x))))
def ledOf (w : World) : Bool := !(w.params.followText "set-order")
theorem newSetLed {Q : Value → Shared → Prop} (h : Q (.ref s.heap.objs.size) { s with heap := s.heap.push (set0 (ledOf w)) }) : wpAny (model prog w) A (newSet (.type "set")) Q E s := by
  unfold newSet setsByText
  refine wpAny_bind (wpAny_bind (wpAny_askSetting (wpAny_pure ?_)))
  dsimp only
  simp only [newObj]
  exact wpAny_bind (wpAny_alloc (wpAny_pure h))
abbrev tupO (its : Array Value) : Obj := { cls := .type "tuple", data := .seq its }
def SetEnd (h₀ : Heap) (L : Addr) (m : Str → Option Value) (s₁ : Shared) (led : List (Addr × Obj)) (y : Value) (s₂ : Shared) : Prop :=
  y = .bool true ∧ ∃ h' tk, s₂ = { s₁ with heap := h', toks := tk } ∧ Fr h₀ L h' m ∧ News h₀ L h' led
def SetSrc (prog : Program) (w : World) (A : Around) (h₀ : Heap) (L : Addr) (m : Str → Option Value) (env : Env) (elt : PySem.Expr) (x : Str) (scope : Scope) (cl : List (Str × Addr)) (Q : Value → Shared → Prop) (xv : Value) (s₁ : Shared) : Prop :=
  ∃ ax its news, xv = .ref ax ∧ A.handled = none ∧ Fr h₀ L s₁.heap m ∧ News h₀ L s₁.heap news ∧ (ax, tupO its) ∈ news ∧ its.size ≤ sizeLine ∧ 0 < its.size ∧
    ∀ s₂ : Shared, (∃ h, s₂ = { s₁ with heap := h }) →
      (∀ (i : Nat) v It oI C oC D m₂ h tk (E' : Value → Shared → Prop), its[i]? = some v → NsObj oC m₂ → m₂ x = some v → Fr h₀ L h m → News h₀ L h ((It, oI) :: (C, oC) :: (D, setN (ledOf w) i) :: news) → Off3 It C D news → ((@Ne Nat It C) ∧ (@Ne Nat It D) ∧ (@Ne Nat C D)) →
        wpAny (model prog w) A (eval elt (compEnvC scope cl C env)) (SetEnd h₀ L m { s₂ with heap := h, toks := tk } ((It, oI) :: (C, oC) :: (D, setN (ledOf w) i) :: news)) E' { s₂ with heap := h, toks := tk }) ∧
      (∀ D h tk, Fr h₀ L h m → News h₀ L h ((D, set1 (ledOf w)) :: news) → Off1 D news → Q (.ref D) { s₂ with heap := h, toks := tk })
theorem SetComp_T {elt iter : PySem.Expr} {x : Str} {px : Pos} {scope : Scope} {cl : List (Str × Addr)} {pos : Pos} {Q : Value → Shared → Prop} (F₀ : Fr h₀ L s.heap m)
    (hclos : closureFor scope env = pure cl) (hcell : ∀ y ∈ scope.names, y.2 ≠ .cell) (hkind : scope.kind = .function)
    (hnames : ∀ y ∈ scope.names, y.2 = .local → scope.names.lookup y.1 = some .local) (hx : scope.names.lookup x = some .local)
    (h : wpAny (model prog w) A (eval iter env) (SetSrc prog w A h₀ L m env elt x scope cl Q) E s)
    (hs : ∀ x, foldedSetIterable iter env x = pure x := by intro _; rfl) :
    wpAny (model prog w) A (eval (.SetComp elt [⟨.Name x px, iter, [], 0⟩] scope pos) env) Q E s := by
  clear F₀
  show wpAny _ A (comprehension (.SetComp elt [⟨.Name x px, iter, [], 0⟩] scope pos) scope env _ (newSet (.type "set")) false (eval iter env)) Q E s
  refine wpAny_comprehension_free (use := none) rfl hs hclos hkind hnames (wpAny_mono h (fun xv s₁ h₁ => ?_) fun _ _ e => e)
  obtain ⟨ax, its, news, rfl, hh, F, N, hm, hsz, hpos, R⟩ := h₁
  have hol := (N _ hm).1
  have hls : s₁.heap.IsTuple ax its := ⟨_, hol, rfl, _, rfl⟩
  have hlt : ax < s₁.heap.objs.size := Heap.lt_size hol
  refine wpAny_pyIter_tuple hls ?_
  have W := Walks.tuple (prog := prog) (w := w) hh s₁.heap.objs.size ax (Nat.ne_of_lt hlt) its
  generalize hI : s₁.heap.objs.size = I at *
  have F1 := F.push { cls := .type "tuple_iterator", data := .fields #[.ref ax, .int 0 0] }
  have N1 := News.push F N { cls := .type "tuple_iterator", data := .fields #[.ref ax, .int 0 0] } rfl
  rw [hI] at N1
  have hst : (s₁.heap.push { cls := .type "tuple_iterator", data := .fields #[.ref ax, .int 0 0] }).IsTupleIter I ax 0 ∧ (s₁.heap.push { cls := .type "tuple_iterator", data := .fields #[.ref ax, .int 0 0] }).IsTuple ax its :=
    ⟨⟨_, by rw [← hI]; exact Heap.get?_push_size _ rfl, rfl, rfl⟩, hls.at fun o e => Heap.get?_push_of_some _ e⟩
  have hIsz : I < (s₁.heap.push { cls := .type "tuple_iterator", data := .fields #[.ref ax, .int 0 0] }).objs.size := by rw [Heap.size_push, hI]; exact Nat.lt_succ_self _
  have R1 := R { s₁ with heap := s₁.heap.push { cls := .type "tuple_iterator", data := .fields #[.ref ax, .int 0 0] } } ⟨_, rfl⟩
  obtain ⟨turn, fin⟩ := R1
  generalize s₁.heap.push { cls := .type "tuple_iterator", data := .fields #[.ref ax, .int 0 0] } = H1 at *
  refine newSetLed ?_
  have hDsz : I < H1.objs.size := hIsz
  have F2 := F1.push (set0 (ledOf w))
  have N2 := News.push F1 N1 (set0 (ledOf w)) rfl
  have hst2 : (H1.push (set0 (ledOf w))).IsTupleIter I ax 0 ∧ (H1.push (set0 (ledOf w))).IsTuple ax its := ⟨hst.1.at fun o e => Heap.get?_push_of_some _ e, hst.2.at fun o e => Heap.get?_push_of_some _ e⟩
  have hnD : ∀ p ∈ (I, _) :: news, p.1 < H1.objs.size := fun p hp => Heap.lt_size (N1 p hp).1
  have hDs : H1.objs.size < (H1.push (set0 (ledOf w))).objs.size := by rw [Heap.size_push]; exact Nat.lt_succ_self _
  generalize hD : H1.objs.size = D at *
  dsimp only
  refine wpAny_newFunctionEnv hcell (by intro y hy; simp at hy) (fun h₁ hns₁ hsb₁ => ?_) hkind
  dsimp only at hns₁ hsb₁ ⊢
  generalize hH2 : H1.push (set0 (ledOf w)) = H2 at *
  have old : ∀ b o, H2.get? b = some o → h₁.get? b = some o := fun b o e => hsb₁.extBut b o (Nat.ne_of_lt (Heap.lt_size e)) (Heap.get?_push_of_some _ e)
  have F3 := F2.keeps old
  have N3 : News h₀ L h₁ _ := N2.grown old
  have hC : ∀ p ∈ (D, set0 (ledOf w)) :: (I, _) :: news, p.1 < H2.objs.size := fun p hp => Heap.lt_size (N2 p hp).1
  generalize hCd : H2.objs.size = C at *
  have hLC : L ≠ C := Nat.ne_of_lt (by rw [← hCd]; exact F2.ns.lt)
  have hDC : D ≠ C := Nat.ne_of_lt (hC (D, _) (List.mem_cons_self ..))
  have hIC : I ≠ C := Nat.ne_of_lt (hC (I, _) (List.mem_cons_of_mem _ (List.mem_cons_self ..)))
  have hID : I ≠ D := Nat.ne_of_lt (hnD (I, _) (List.mem_cons_self ..))
  have hst3 : h₁.IsTupleIter I ax 0 ∧ h₁.IsTuple ax its := ⟨hst2.1.at fun o e => old _ _ e, hst2.2.at fun o e => old _ _ e⟩
  have hC₀ : h₀.get? C = none := by
    cases e : h₀.get? C with
    | none => rfl
    | some o => have := Heap.lt_size (F2.keep _ _ e); rw [hCd] at this; exact absurd this (Nat.lt_irrefl _)
  have hI0 := N1 (I, _) (List.mem_cons_self ..)
  have hD0 := N3 (D, set0 (ledOf w)) (List.mem_cons_self ..)
  have offn : ∀ p ∈ news, p.1 ≠ I ∧ p.1 ≠ C ∧ p.1 ≠ D := fun p hp => ⟨fun e => by have := Heap.lt_size (N p hp).1; rw [hI, e] at this; exact Nat.lt_irrefl _ this, Nat.ne_of_lt (hC p (List.mem_cons_of_mem _ (List.mem_cons_of_mem _ hp))), Nat.ne_of_lt (hnD p (List.mem_cons_of_mem _ hp))⟩
  have offAx := offn _ hm
  have loop : ∀ s₃ : Shared, s₃ = { s₁ with heap := h₁, toks := s₁.toks + ([] : List (Str × Value)).length } →
      codeAny (model prog w) A (.compLoop (.SetComp elt [⟨.Name x px, iter, [], 0⟩] scope pos) 0 (.ref I) (.ref D) (compEnvC scope cl C env)) (compPost (model prog w) A E none Q (.ref D) C) s₃ := by
    rintro s₃ rfl
    refine compLoopS (fun k s' => ∃ h' tk i m', s' = { s₁ with heap := h', toks := tk } ∧ i ≤ its.size ∧ k = its.size + 1 - i ∧ (h'.IsTupleIter I ax i ∧ h'.IsTuple ax its) ∧ Fr h₀ L h' m ∧ h'.Ns C m' ∧ News h₀ L h' ((D, setN (ledOf w) i) :: news)) ?_ (its.size + 1)
      ⟨h₁, _, 0, _, rfl, Nat.zero_le _, rfl, hst3, F3, hns₁, fun p hp => ?_⟩
    · rintro k s' ⟨h', tk, i, m', rfl, hi, rfl, hst', F', hn', N'⟩
      by_cases hlt : i < its.size
      · refine W.item i _ _ _ hlt hst' fun v h₂ tk₂ hPv hst₂ hk₂ => ?_
        have F₂ : Fr h₀ L h₂ m := fr_but F' hk₂ hI0.2.1.symm hI0.2.2
        have N₂ : News h₀ L h₂ ((D, setN (ledOf w) i) :: news) := news_but N' hk₂ fun p hp => by
          rcases List.mem_cons.mp hp with rfl | hp
          · exact hID.symm
          · exact (offn p hp).1
        refine wpAny_assign_Name (wpAny_storeName_local (lookup_relabel_local hx) (hn'.at' fun o e => hk₂ _ o (by simpa using Ne.symm hIC) e) (fun h₃ hn₃ hs₃ => ?_) (by simp [compEnvC, relabel, hkind]))
        obtain ⟨oI, heI, hcI, hdI⟩ := id hst₂.1
        have heI3 : h₃.get? I = some oI := hs₃.extBut _ _ hIC heI
        obtain ⟨oC, heC, hoC⟩ := ns_obj hn₃
        have F₃ : Fr h₀ L h₃ m := F₂.change hs₃ hLC.symm hC₀
        have N₃ : News h₀ L h₃ ((I, oI) :: (C, oC) :: (D, setN (ledOf w) i) :: news) := fun p hp => by
          rcases List.mem_cons.mp hp with rfl | hp
          · exact ⟨heI3, hI0.2⟩
          · rcases List.mem_cons.mp hp with rfl | hp
            · exact ⟨heC, hLC.symm, hC₀⟩
            · have z := N₂ p hp
              refine ⟨hs₃.extBut _ _ ?_ z.1, z.2⟩
              rcases List.mem_cons.mp hp with rfl | hp
              · exact hDC
              · exact (offn p hp).2.1
        refine wpAny_mono (turn i v I oI C oC D _ h₃ _ _ hPv hoC (by simp) F₃ N₃ (Off3.of offn) ⟨hIC, hID, hDC.symm⟩) (fun y s₄ h₄ => ?_) fun _ _ e => e
        obtain ⟨rfl, h₄, tk₄, rfl, F₄, N₄⟩ := h₄
        have zI := (N₄ (I, oI) List.mem_cons_self).1
        have zC := (N₄ (C, oC) (List.mem_cons_of_mem _ List.mem_cons_self)).1
        have zD := N₄ (D, setN (ledOf w) i) (List.mem_cons_of_mem _ (List.mem_cons_of_mem _ List.mem_cons_self))
        have N₄' : News h₀ L h₄ news := fun p hp => N₄ p (List.mem_cons_of_mem _ (List.mem_cons_of_mem _ (List.mem_cons_of_mem _ hp)))
        refine setAddN zD.1 fun h₅ hd₅ hs₅ => ?_
        refine ⟨its.size + 1 - (i + 1), by omega, h₅, _, i + 1, _, rfl, hlt, rfl, ⟨⟨oI, hs₅.extBut _ _ hID zI, hcI, hdI⟩, ?_⟩, F₄.change hs₅ zD.2.1 zD.2.2, (hoC.ns zC).sameBut hs₅ hDC.symm, fun p hp => ?_⟩
        · exact ⟨_, hs₅.extBut _ _ offAx.2.2 (N₄' _ hm).1, rfl, _, rfl⟩
        · rcases List.mem_cons.mp hp with rfl | hp
          · exact ⟨hd₅, zD.2⟩
          · exact ⟨hs₅.extBut _ _ (offn p hp).2.2 (N₄' p hp).1, (N₄' p hp).2⟩
      · obtain rfl : i = its.size := Nat.le_antisymm hi (Nat.not_lt.mp hlt)
        refine W.done _ _ _ hst' fun h₂ tk₂ hk₂ => ?_
        have F₂ : Fr h₀ L h₂ m := fr_but F' hk₂ hI0.2.1.symm hI0.2.2
        obtain ⟨j, hj⟩ : ∃ j, its.size = j + 1 := ⟨its.size - 1, by omega⟩
        rw [hj] at N'
        have N₂ : News h₀ L h₂ ((D, set1 (ledOf w)) :: news) := news_but N' hk₂ fun p hp => by
          rcases List.mem_cons.mp hp with rfl | hp
          · exact hID.symm
          · exact (offn p hp).1
        refine ⟨m', hn'.at' fun o e => hk₂ _ o (by simpa using Ne.symm hIC) e, fun h'' hs'' => fin D h'' tk₂ (F₂.change hs'' hLC.symm hC₀) (fun p hp => ?_) (Off3.of offn).one⟩
        refine ⟨hs''.extBut _ _ ?_ (N₂ p hp).1, (N₂ p hp).2⟩
        rcases List.mem_cons.mp hp with rfl | hp
        · exact hDC
        · exact (offn p hp).2.1
    · rcases List.mem_cons.mp hp with rfl | hp
      · exact hD0
      · exact N3 p (List.mem_cons_of_mem _ (List.mem_cons_of_mem _ hp))
  exact compStartS (loop _ rfl) (W.self 0 _ _ _ hst3 (loop _ rfl))
end
end Mine
end
section
open PySem PySem.W PyProof.Rows PySem.Calls PyProof.Rows.LCg
set_option Elab.async false
set_option maxRecDepth 100000
set_option maxHeartbeats 4000000
namespace Mine
theorem owner_seti : Manifest.owners.lookup (String.ofList ['r', 'o', 't', 'a', 'r', 'e', 't', 'i', '_', 't', 'e', 's'].reverse) = some Manifest.sig_set_iterator := by kernel_rfl
theorem slot_seti_next : Slot "set_iterator" "__next__" "set_iterator.__next__" :=
  .of (owner := "set_iterator") (n := "__next__") (by rw [typeLookup_type, builtinLookup_eq_fast]; kernel_rfl) (by decide +kernel) (by decide +kernel) (by decide +kernel)
    (by first | exact .inl (by decide +kernel) | exact .inr (by decide +kernel)) (by rw [isSubtype_type]; kernel_rfl)
theorem args_seti_next (a : Value) : argsOk "set_iterator.__next__" ⟨[a], []⟩ := by
  unfold argsOk; rw [signature?_of (id := "set_iterator.__next__") (n := ['_', '_', 't', 'x', 'e', 'n', '_', '_']) (o := ['r', 'o', 't', 'a', 'r', 'e', 't', 'i', '_', 't', 'e', 's']) (by kernel_rfl) owner_seti]; kernel_rfl
theorem entry_seti_next : entryFor table "set_iterator.__next__" = some Builtin.«set_iterator.__next__» := entryFor_of_tree (by kernel_rfl)
theorem entry_set_iter : entryFor table "set.__iter__" = some Builtin.«frozenset.__iter__» :=
  entryFor_alias (id' := "frozenset.__iter__") (by kernel_rfl) rfl (by decide +kernel) (by kernel_rfl)
abbrev setiO (a b : Int) (S : Value) : Obj := { cls := .type "set_iterator", data := .fields #[.int a 0, .int b 0, S, .int 1 0, .int 1 0] }
section
variable {prog : Program} {w : World} {A : Around} {E : Value → Shared → Prop} {s : Shared} {h₀ : Heap} {L S : Addr} {m : Str → Option Value} {env : Env} {news : List (Addr × Obj)}
theorem st1 {led : Bool} {Q : (Array (Int × Value) × Nat × SetTable) → Shared → Prop} (ho : s.heap.get? S = some (set1 led)) (h : Q (#[(1, .bool true)], 1, tab1 led) s) : wpAny (model prog w) A (setState S) Q E s :=
  wpAny_setState_of ho rfl rfl h
theorem setIter1 {Q : Value → Shared → Prop} (F : Fr h₀ L s.heap m) (N : News h₀ L s.heap news) (hm : (S, set1 (ledOf w)) ∈ news)
    (h : ∀ I h', Fr h₀ L h' m → News h₀ L h' ((I, setiO 0 0 (.ref S)) :: news) → (∀ p ∈ news, p.1 ≠ I) → Q (.ref I) { s with heap := h' }) :
    wpAny (model prog w) A (pyIter (.ref S)) Q E s := by
  have oS := (N _ hm).1
  have hT : s.TypeIs (.ref S) "set" := ⟨_, oS, rfl⟩
  refine wpAny_pyIter_slot hT PySem.F.slot_set_iter (wpAny_call_entry PySem.F.slot_set_iter hT entry_set_iter ?_ (PySem.F.args_set_iter_1 _))
  unfold Builtin.«frozenset.__iter__»
  refine wpAny_bind (m := Builtin.Frozenset.slot0 _ _) (wpAny_pure ?_)
  unfold Builtin.Frozenset.sizeOf setEntries
  refine wpAny_bind (wpAny_bind (wpAny_bind (st1 oS (wpAny_pure (wpAny_pure ?_)))))
  unfold setDrawn setsByText
  refine wpAny_bind (wpAny_bind (st1 oS ?_))
  dsimp only
  refine wpAny_bind (wpAny_bind (wpAny_askSetting (wpAny_pure (wpAny_pure ?_))))
  split
  · rename_i hb
    have hb2 : ((!(w.params.followText "set-order")) && false) = true := hb
    rw [Bool.and_false] at hb2
    cases hb2
  refine wpAny_bind (wpAny_pure ?_)
  unfold setEpoch
  refine wpAny_bind (wpAny_bind (st1 oS (wpAny_pure ?_)))
  unfold newFields
  refine wpAny_bind (wpAny_newObj_type ?_)
  refine wpAny_pure ⟨_, rfl, "set_iterator", _, ⟨_, Heap.get?_push_size _ rfl, rfl⟩, slot_seti_next.lookup, ?_⟩
  exact h _ _ (F.push _) (News.push F N (setiO 0 0 (.ref S)) rfl) fun p hp => Nat.ne_of_lt (Heap.lt_size (N p hp).1)
theorem setNext1 {I : Addr} {Q : Option Value → Shared → Prop} (F : Fr h₀ L s.heap m) (N : News h₀ L s.heap ((I, setiO 0 0 (.ref S)) :: news)) (hm : (S, set1 (ledOf w)) ∈ news) (hnI : ∀ p ∈ news, p.1 ≠ I)
    (h : ∀ a h', (a = 0 ∨ a = 2) → (w.params.followText "set-order" = false → a = 2) → Fr h₀ L h' m → News h₀ L h' ((I, setiO a 1 (.ref S)) :: news) → Q (some (.bool true)) { s with heap := h' }) :
    wpAny (model prog w) A (pyNext (.ref I)) Q E s := by
  have oI := N (I, setiO 0 0 (.ref S)) (List.mem_cons_self ..)
  have oS := N _ (List.mem_cons_of_mem _ hm)
  have tI : s.TypeIs (.ref I) "set_iterator" := ⟨_, oI.1, rfl⟩
  unfold pyNext
  refine wpAny_bind (wpAny_attempt (wpAny_callSpecial?_slot (name := Str.ofString "__next__") tI slot_seti_next (wpAny_call_entry slot_seti_next tI entry_seti_next ?_ (args_seti_next _))))
  unfold Builtin.«set_iterator.__next__»
  refine wpAny_bind (m := slotArgs _ _ _) (wpAny_pure ?_)
  dsimp only
  refine wpAny_bind (wpAny_fieldsOf oI.1 rfl ?_)
  dsimp only
  unfold setEntries
  refine wpAny_bind (wpAny_bind (st1 oS.1 (wpAny_pure ?_)))
  dsimp only
  rw [if_neg (by decide)]
  have key : ∀ (Q' : Option (Value × Nat) → Shared → Prop) (E' : Value → Shared → Prop), (∀ j, (j = 0 ∨ j = 2) → (w.params.followText "set-order" = false → j = 2) → Q' (some (.bool true, j)) s) → wpAny (model prog w) A.in1 (setNext S 0 0 1) Q' E' s := by
    intro Q' E' hq
    unfold setNext setsByText
    refine wpAny_bind (st1 oS.1 ?_)
    dsimp only
    refine wpAny_bind (wpAny_bind (wpAny_askSetting (wpAny_pure ?_)))
    cases hb : w.params.followText "set-order" with
    | true =>
      have hb' : ({ program := (model prog w).prog, params := (model prog w).w.params } : Setting).params.followText "set-order" = true := hb
      rw [if_pos hb', if_neg (by decide)]
      unfold setWalk setsByText
      refine wpAny_bind (wpAny_bind (st1 oS.1 ?_))
      dsimp only
      refine wpAny_bind (wpAny_bind (wpAny_askSetting (wpAny_pure ?_)))
      rw [if_pos hb']
      refine wpAny_bind (wpAny_askSetting (wpAny_pure ?_))
      refine wpAny_pure ?_
      have e : pickOrder (w.params.setOrder S 1) #[((1 : Int), Value.bool true)] = #[(1, .bool true)] := by
        unfold pickOrder
        show pickOrder.go (w.params.setOrder S 1) 1 0 [((1 : Int), Value.bool true)] #[] = _
        unfold pickOrder.go
        rw [show w.params.setOrder S 1 0 % [((1 : Int), Value.bool true)].length = 0 from Nat.mod_one _]
        rfl
      show Q' (((pickOrder (w.params.setOrder S 1) #[((1 : Int), Value.bool true)])[0]?).map fun e => (e.2, 0)) s
      rw [e]
      exact hq 0 (.inl rfl) (by rw [hb]; exact fun h => absurd h (by decide))
    | false =>
      have hb' : ¬ ({ program := (model prog w).prog, params := (model prog w).w.params } : Setting).params.followText "set-order" = true := by
        rw [show ({ program := (model prog w).prog, params := (model prog w).w.params } : Setting).params.followText "set-order" = false from hb]; decide
      have hled : ledOf w = true := by unfold ledOf; rw [hb]; rfl
      rw [if_neg hb', hled]
      refine wpAny_bind (wpAny_pure ?_)
      exact wpAny_pure (hq 2 (.inr rfl) (fun _ => rfl))
  refine wpAny_bind (key _ _ fun j hj1 hj2 => ?_)
  dsimp only
  have hs1 := Heap.SameBut.update s.heap I (Obj.mapFields (·.setIfInBounds 0 (rawInt j)))
  have hI1 := Heap.get?_update_self (Obj.mapFields (·.setIfInBounds 0 (rawInt j))) oI.1 rfl
  refine wpAny_bind (wpAny_setField oI.1 rfl (by simp) ?_)
  have F1 := ksk_fr F hs1 oI.2.1 oI.2.2
  have N1 := ksk_news (fun p hp => N p (List.mem_cons_of_mem _ hp)) hs1 hnI
  generalize s.heap.update I (Obj.mapFields (·.setIfInBounds 0 (rawInt j))) = g1 at *
  have hs2 := Heap.SameBut.update g1 I (Obj.mapFields (·.setIfInBounds 1 (rawInt ((0 : Int) + 1))))
  have hI2 := Heap.get?_update_self (Obj.mapFields (·.setIfInBounds 1 (rawInt ((0 : Int) + 1)))) hI1 rfl
  refine wpAny_bind (wpAny_setField hI1 rfl (by simp) ?_)
  have F2 := ksk_fr F1 hs2 oI.2.1 oI.2.2
  have N2 := ksk_news N1 hs2 hnI
  refine wpAny_pure ⟨.bool true, rfl, wpAny_pure (h (j : Int) _ (by omega) (fun hf => by rw [hj2 hf]; rfl) F2 (fun p hp => ?_))⟩
  rcases List.mem_cons.mp hp with rfl | hp
  · exact ⟨hI2, oI.2⟩
  · exact N2 p hp
theorem setStop1 {I : Addr} {a : Int} {Q : Option Value → Shared → Prop} (hh : A.handled = none) (F : Fr h₀ L s.heap m) (N : News h₀ L s.heap ((I, setiO a 1 (.ref S)) :: news)) (hm : (S, set1 (ledOf w)) ∈ news) (hnI : ∀ p ∈ news, p.1 ≠ I)
    (ha : a = 0 ∨ a = 2) (ha2 : w.params.followText "set-order" = false → a = 2) (h : ∀ h' tk, Fr h₀ L h' m → News h₀ L h' news → Q none { s with heap := h', toks := tk }) :
    wpAny (model prog w) A (pyNext (.ref I)) Q E s := by
  have oI := N (I, setiO a 1 (.ref S)) (List.mem_cons_self ..)
  have oS := N _ (List.mem_cons_of_mem _ hm)
  have tI : s.TypeIs (.ref I) "set_iterator" := ⟨_, oI.1, rfl⟩
  unfold pyNext
  refine wpAny_bind (wpAny_attempt (wpAny_callSpecial?_slot (name := Str.ofString "__next__") tI slot_seti_next (wpAny_call_entry slot_seti_next tI entry_seti_next ?_ (args_seti_next _))))
  unfold Builtin.«set_iterator.__next__»
  refine wpAny_bind (m := slotArgs _ _ _) (wpAny_pure ?_)
  dsimp only
  refine wpAny_bind (wpAny_fieldsOf oI.1 rfl ?_)
  dsimp only
  unfold setEntries
  refine wpAny_bind (wpAny_bind (st1 oS.1 (wpAny_pure ?_)))
  dsimp only
  rw [if_neg (by decide)]
  have key : ∀ (Q' : Option (Value × Nat) → Shared → Prop) (E' : Value → Shared → Prop), Q' none s → wpAny (model prog w) A.in1 (setNext S a.toNat 1 1) Q' E' s := by
    intro Q' E' hq
    unfold setNext setsByText
    refine wpAny_bind (st1 oS.1 ?_)
    dsimp only
    refine wpAny_bind (wpAny_bind (wpAny_askSetting (wpAny_pure ?_)))
    cases hb : w.params.followText "set-order" with
    | true =>
      have hb' : ({ program := (model prog w).prog, params := (model prog w).w.params } : Setting).params.followText "set-order" = true := hb
      rw [if_pos hb', if_neg (by decide)]
      unfold setWalk setsByText
      refine wpAny_bind (wpAny_bind (st1 oS.1 ?_))
      dsimp only
      refine wpAny_bind (wpAny_bind (wpAny_askSetting (wpAny_pure ?_)))
      rw [if_pos hb']
      refine wpAny_bind (wpAny_askSetting (wpAny_pure ?_))
      refine wpAny_pure ?_
      have e : pickOrder (w.params.setOrder S 1) #[((1 : Int), Value.bool true)] = #[(1, .bool true)] := by
        unfold pickOrder
        show pickOrder.go (w.params.setOrder S 1) 1 0 [((1 : Int), Value.bool true)] #[] = _
        unfold pickOrder.go
        rw [show w.params.setOrder S 1 0 % [((1 : Int), Value.bool true)].length = 0 from Nat.mod_one _]
        rfl
      show Q' (((pickOrder (w.params.setOrder S 1) #[((1 : Int), Value.bool true)])[1]?).map fun e => (e.2, a.toNat)) s
      rw [e]
      exact hq
    | false =>
      have hb' : ¬ ({ program := (model prog w).prog, params := (model prog w).w.params } : Setting).params.followText "set-order" = true := by
        rw [show ({ program := (model prog w).prog, params := (model prog w).w.params } : Setting).params.followText "set-order" = false from hb]; decide
      have hled : ledOf w = true := by unfold ledOf; rw [hb]; rfl
      obtain rfl := ha2 hb
      rw [if_neg hb', hled]
      refine wpAny_bind (wpAny_pure ?_)
      exact wpAny_pure hq
  refine wpAny_bind (key _ _ ?_)
  dsimp only
  have hs1 := Heap.SameBut.update s.heap I (Obj.mapFields (·.setIfInBounds 2 Value.none))
  refine wpAny_bind (wpAny_setField oI.1 rfl (by simp) ?_)
  have F1 := ksk_fr F hs1 oI.2.1 oI.2.2
  have N1 := ksk_news (fun p hp => N p (List.mem_cons_of_mem _ hp)) hs1 hnI
  show wpAny _ _ (newExc (.type "StopIteration") [] >>= _) _ _ _
  refine wpAny_bind ?_
  simp only [newExc, newTuple]
  refine wpAny_bind (wpAny_newObj_type ?_ (by size_fits))
  refine wpAny_bind (m := firstArgMember _ _) (wpAny_of_eq (a := Value.none) (by first | rfl | (simp only [firstArgMember]; rfl)) ?_)
  refine wpAny_newObj_type ?_ (by size_fits)
  simp only [raiseNew]
  refine wpAny_bind (wpAny_handled ?_)
  rw [show A.in1.handled = none from hh]
  refine wpAny_bind (wpAny_pure (wpAny_throw ?_))
  refine wpAny_bind (wpAny_isInstance (T := "StopIteration") (b := true) ⟨_, Heap.get?_push_size _ rfl, rfl⟩ isSubtype_stop ?_)
  refine wpAny_pure (h _ _ ((F1.push _).push _) fun p hp => ?_)
  exact ⟨Heap.get?_push_of_some _ (Heap.get?_push_of_some _ (N1 p hp).1), (N1 p hp).2⟩
theorem assignSet1 {elts : List PySem.Expr} {k} {pos : Pos} {Q : Unit → Shared → Prop} (hh : A.handled = none) (F : Fr h₀ L s.heap m) (N : News h₀ L s.heap news) (hm : (S, set1 (ledOf w)) ∈ news)
    (hn : (assignEach elts env).length = 1) (hstar : (assignEach elts env).findIdx? (·.1) = none)
    (h : ∀ h' tk, Fr h₀ L h' m → News h₀ L h' news → wpAny (model prog w) A (assignInOrder ((assignEach elts env).map (·.2)) [.bool true]) Q E { s with heap := h', toks := tk }) :
    wpAny (model prog w) A (assign (.Tuple elts k pos) env (.ref S)) Q E s := by
  have oS := (N _ hm).1
  have hT : s.TypeIs (.ref S) "set" := ⟨_, oS, rfl⟩
  show wpAny _ _ (standAt pos >>= fun _ => unpack (.ref S) (assignEach elts env)) _ _ _
  refine wpAny_bind (wpAny_standAt ?_)
  unfold unpack
  rw [hn, hstar]
  refine wpAny_bind (wpAny_holding ?_)
  unfold unpackItems notIterableAtAll
  refine wpAny_bind (wpAny_bind (wpAny_specialOf hT PySem.F.slot_set_iter.lookup ?_))
  refine wpAny_pure ?_
  (try dsimp only)
  refine wpAny_bind (wpAny_holding (setIter1 F N hm fun I h1 F1 N1 hnI => ?_))
  (try dsimp only)
  refine wpAny_bind (wpAny_holding ?_)
  unfold draw
  refine wpAny_bind (setNext1 (s := { s with heap := h1 }) F1 N1 hm hnI fun a h2 ha ha2 F2 N2 => ?_)
  (try dsimp only)
  refine wpAny_bind (wpAny_holding ?_)
  unfold draw
  refine wpAny_pure (wpAny_pure ?_)
  rw [if_neg (by decide)]
  refine wpAny_bind (wpAny_holding (setStop1 (s := { s with heap := h2 }) hh F2 N2 hm hnI ha ha2 fun h3 tk3 F3 N3 => ?_))
  rw [if_neg (by decide)]
  exact wpAny_pure (h h3 tk3 F3 N3)
end
end Mine
end
section
open PySem PySem.W PyProof.Rows PySem.Calls PyProof.Rows.LCg
set_option Elab.async false
set_option maxRecDepth 100000
set_option maxHeartbeats 4000000
namespace Mine
section
variable {prog : Program} {w : World} {A : Around} {E : Value → Shared → Prop} {s : Shared} {h₀ : Heap} {L : Addr} {m : Str → Option Value} {env : Env}
def TupSrc (prog : Program) (w : World) (A : Around) (h₀ : Heap) (L : Addr) (m : Str → Option Value) (env : Env) (elt : PySem.Expr) (x : Str) (scope : Scope) (cl : List (Str × Addr)) (Fin : Shared → List Value → List (Addr × Obj) → Prop) (xv : Value) (s₁ : Shared) : Prop :=
  ∃ ax its news, xv = .ref ax ∧ A.handled = none ∧ Fr h₀ L s₁.heap m ∧ News h₀ L s₁.heap news ∧ (ax, tupO its) ∈ news ∧ its.size ≤ sizeLine ∧
    ∀ s₂ : Shared, (∃ h, s₂ = { s₁ with heap := h }) → CompRest prog w A h₀ L m env elt x scope cl s₂ (fun nw => (ax, tupO its) ∈ nw) (fun i v => its[i]? = some v) (Fin s₂) its.size 0 [] news
theorem Assign_ListComp_Tup {elt iter : PySem.Expr} {x y : Str} {px py : Pos} {scope : Scope} {cl : List (Str × Addr)} {pos spos : Pos} {Q : Flow → Shared → Prop} (F₀ : Fr h₀ L s.heap m) (hLe : env.locals = L)
    (hsw : swapsWith (.ListComp elt [⟨.Name x px, iter, [], 0⟩] scope pos) (some (.Name y py)) spos.line env = pure true)
    (hclos : closureFor scope env = pure cl) (hcell : ∀ z ∈ scope.names, z.2 ≠ .cell) (hkind : scope.kind = .function)
    (hnames : ∀ z ∈ scope.names, z.2 = .local → scope.names.lookup z.1 = some .local) (hx : scope.names.lookup x = some .local)
    (hy : env.kindOf y = some .local) (hp : (env.scope.kind == .class || (env.scope.kind == .module && env.locals != env.globals)) = false)
    (h : wpAny (model prog w) A (eval iter env) (TupSrc prog w A h₀ L m env elt x scope cl (fun s₂ => FinA h₀ L m s₂ y Q)) E s)
    (hs : ∀ x, foldedSetIterable iter env x = pure x := by intro _; rfl) :
    wpAny (model prog w) A (exec (.Assign [.Name y py] (.ListComp elt [⟨.Name x px, iter, [], 0⟩] scope pos) spos) env) Q E s := by
  clear F₀
  subst hLe
  rw [exec_Assign_Name_used _ _ _ _ hsw]
  refine wpAny_bind (wpAny_standAt (wpAny_bind ?_))
  show wpAny _ A (do let _ ← comprehension (.ListComp elt [⟨.Name x px, iter, [], 0⟩] scope pos) scope env _ (newList []) false (eval iter env) (some (assign (.Name y py) env))) _ _ s
  refine wpAny_bind (wpAny_mono (wpAny_comprehension_free (use := some (assign (.Name y py) env)) (Q := fun _ s' => Q .next s') rfl hs hclos hkind hnames
    (wpAny_mono h (fun xv s₁ h₁ => ?_) fun _ _ e => e)) (fun _ s' hq => wpAny_pure (wpAny_pure hq)) fun _ _ e => e)
  obtain ⟨ax, its, news, rfl, hh, F, N, hm, hsz, R⟩ := h₁
  have hol := (N _ hm).1
  have hl : s₁.heap.IsTuple ax its := ⟨_, hol, rfl, _, rfl⟩
  have hlt : ax < s₁.heap.objs.size := Heap.lt_size hol
  refine wpAny_pyIter_tuple hl ?_
  have up : ∀ b o, s₁.heap.get? b = some o → (s₁.heap.push { cls := .type "tuple_iterator", data := .fields #[.ref ax, .int 0 0] }).get? b = some o := fun b o e => Heap.get?_push_of_some _ e
  refine block_U (Walks.tuple hh s₁.heap.objs.size ax (Nat.ne_of_lt hlt) its) hsz (fun i h st => by obtain ⟨o, e, _⟩ := st.1; exact ⟨o, e⟩)
    (fun i h h' o nw st e e' k N' hS => ⟨by obtain ⟨o2, e2, r⟩ := st.1; rw [e] at e2; rw [← Option.some.inj e2] at r; exact ⟨o, e', r⟩, ⟨_, (N' _ hS).1, rfl, _, rfl⟩⟩) hcell hkind hx ⟨⟨_, Heap.get?_push_size _ rfl, rfl, rfl⟩, hl.at fun o e => up _ _ e⟩ (fun b hb => ?_)
      (F.keeps up) (N.grown up) (Nat.ne_of_lt F.ns.lt) (next_is_new F) (fun p hp => Nat.ne_of_lt (Heap.lt_size (N p hp).1)) hm (R _ ⟨_, rfl⟩) ?_
  · show b < (s₁.heap.push _).objs.size
    rw [Heap.size_push]
    rcases List.mem_cons.mp hb with rfl | hb
    · exact Nat.lt_succ_self _
    · rw [List.mem_singleton.mp hb]; exact Nat.lt_succ_of_lt hlt
  · intro D C h' tk m' ys news' F' N' o1 hn hC₀ hD₀ hCL hDL hCD offC fin
    show wpAny _ A (assign (.Name y py) env (.ref D)) _ _ _
    refine wpAny_assign_Name (wpAny_storeName_local hy F'.ns (fun h₂ hn₂ hs₂ => ?_) hp)
    have hL₀ : h₀.get? env.locals = none := Heap.get?_none_of_le F'.above
    have F₂ : Fr h₀ env.locals h₂ (fun z => if z = y then some (.ref D) else m z) := ⟨hn₂, fun b o e => hs₂.extBut b o (fun q => by rw [q, hL₀] at e; cases e) (F'.keep b o e), F'.above⟩
    refine ⟨m', hn.sameBut hs₂ hCL, fun h'' hs'' => fin D h'' _ (F₂.change hs'' hCL hC₀) (fun p hp => ?_) o1⟩
    have z : h₂.get? p.1 = some p.2 := hs₂.extBut _ _ (N' p hp).2.1 (N' p hp).1
    refine ⟨hs''.extBut _ _ ?_ z, (N' p hp).2⟩
    rcases List.mem_cons.mp hp with rfl | hp
    · exact Ne.symm hCD
    · exact offC p hp
/-- two lists of texts, compared at the first place where they part -/
def lexC (c : Str → Str → Bool) : List Str → List Str → Bool
  | a :: r, b :: t => if a = b then lexC c r t else c a b
  | _, _ => false
theorem lex_drop {c : Str → Str → Bool} : ∀ (i : Nat) {xs ys : List Str}, xs.take i = ys.take i → lexC c (xs.drop i) (ys.drop i) = lexC c xs ys
  | 0, _, _, _ => rfl
  | i + 1, [], [], _ => by simp
  | i + 1, [], _ :: _, h => by simp at h
  | i + 1, _ :: _, [], h => by simp at h
  | i + 1, a :: r, b :: t, h => by
    simp only [List.take_succ_cons, List.cons.injEq] at h
    obtain ⟨rfl, h⟩ := h
    show lexC c (r.drop i) (t.drop i) = if a = a then lexC c r t else c a a
    rw [if_pos rfl]
    exact lex_drop i h
def ltB (a b : Str) : Bool := decide (a.cps.toList < b.cps.toList)
def gtB (a b : Str) : Bool := decide (b.cps.toList < a.cps.toList)
end
open PySem.MeetsSeq3 PySem.AutoSeq1 PySem.MeetsSeq
theorem strAt {vs : List Value} {xs : List Str} (h : StrsAre vs xs) {i : Nat} (hi : i < xs.length) : ∃ t, vs.toArray[i]? = some (.str xs[i] t) := by
  obtain ⟨t, e⟩ := h.get i xs[i] (List.getElem?_eq_getElem hi)
  exact ⟨t, by simpa using e⟩
theorem gtStr {prog : Program} {w : World} {A : Around} {E : Value → Shared → Prop} {s : Shared} {x y : Str} {t u : Tok} {Q : Value → Shared → Prop} (h : Q (.bool (decide (y.cps.toList < x.cps.toList))) s) : wpAny (model prog w) A (richCompare .Gt (.str x t) (.str y u)) Q E s := PySem.P.gt_str h
theorem cmp_loop (l b : Addr) {vs us : List Value} (n n2 : Nat) {xs ys : List Str} (hS : StrsAre vs xs) (hT : StrsAre us ys) (hlen : xs.length = ys.length) (k : Nat) :
    ∀ i : Nat, xs.length - i = k → Meets (Builtin.«list.__eq__.loop» ⟨[.ref l, .ref b, rawInt i, rawInt 0], []⟩)
      (fun _ R s => s.heap.get? l = some { cls := .type "list", dict := none, data := .seq vs.toArray n, slots := #[] } ∧ s.heap.get? b = some { cls := .type "list", dict := none, data := .seq us.toArray n2, slots := #[] } ∧
        R (.ok (.ret (.bool (lexC ltB (xs.drop i) (ys.drop i))))) s) := by
  have hvl := hS.length
  have hul := hT.length
  induction k with
  | zero =>
    intro i hk prog w A R s h
    obtain ⟨hp, g, d, tk, os⟩ := s; obtain ⟨hl, hb, h⟩ := h
    wp_walk using wpAny_loadPart' hl, wpAny_loadPart' hb
    have hi1 : vs.toArray[((i : Nat) : Int).toNat]? = none := by simp; omega
    have hi2 : us.toArray[((i : Nat) : Int).toNat]? = none := by simp; omega
    rw [List.drop_of_length_le (by omega), List.drop_of_length_le (by omega)] at h
    rw [hi1, hi2]
    wp_walk using wpAny_loadPart' hl, wpAny_loadPart' hb
    show R (.ok (.ret (.bool (decide (vs.toArray.size < us.toArray.size))))) _
    rw [List.size_toArray, List.size_toArray, decide_eq_false (by omega)]
    exact h
  | succ k ih =>
    intro i hk prog w A R s h
    obtain ⟨hp, g, d, tk, os⟩ := s; obtain ⟨hl, hb, h⟩ := h
    wp_walk using wpAny_loadPart' hl, wpAny_loadPart' hb
    have hlt : i < xs.length := by omega
    have hlt2 : i < ys.length := by omega
    obtain ⟨t1, e1⟩ := strAt hS hlt
    obtain ⟨t2, e2⟩ := strAt hT hlt2
    have hi1 : vs.toArray[((i : Nat) : Int).toNat]? = some (.str xs[i] t1) := by simpa using e1
    have hi2 : us.toArray[((i : Nat) : Int).toNat]? = some (.str ys[i] t2) := by simpa using e2
    have hc : ((i : Int) + 1) = ((i + 1 : Nat) : Int) := by push_cast; rfl
    rw [List.drop_eq_getElem_cons hlt, List.drop_eq_getElem_cons hlt2] at h
    unfold lexC at h
    rw [hi1, hi2]
    refine wpAny_bind (wpAny_eqBool_str ?_)
    by_cases hb' : xs[i] = ys[i]
    · rw [decide_eq_true hb']
      rw [if_pos hb'] at h
      wp_walk
      rw [hc]
      exact ⟨plainId_quiet plain_eq_loop _, codeAny_builtin entry_eq_loop (by
        rw [Around.under_plainId plain_eq_loop _]
        exact ih (i + 1) (by omega) prog w A R _ ⟨hl, hb, h⟩)⟩
    · rw [decide_eq_false hb']
      rw [if_neg hb'] at h
      wp_walk using wpAny_loadPart' hl, wpAny_loadPart' hb
      rw [hi1, hi2]
      refine wpAny_bind (lt_str ?_)
      wp_walk
      exact h
theorem cmpG_loop (l b : Addr) {vs us : List Value} (n n2 : Nat) {xs ys : List Str} (hS : StrsAre vs xs) (hT : StrsAre us ys) (hlen : xs.length = ys.length) (k : Nat) :
    ∀ i : Nat, xs.length - i = k → Meets (Builtin.«list.__eq__.loop» ⟨[.ref l, .ref b, rawInt i, rawInt 4], []⟩)
      (fun _ R s => s.heap.get? l = some { cls := .type "list", dict := none, data := .seq vs.toArray n, slots := #[] } ∧ s.heap.get? b = some { cls := .type "list", dict := none, data := .seq us.toArray n2, slots := #[] } ∧
        R (.ok (.ret (.bool (lexC gtB (xs.drop i) (ys.drop i))))) s) := by
  have hvl := hS.length
  have hul := hT.length
  induction k with
  | zero =>
    intro i hk prog w A R s h
    obtain ⟨hp, g, d, tk, os⟩ := s; obtain ⟨hl, hb, h⟩ := h
    wp_walk using wpAny_loadPart' hl, wpAny_loadPart' hb
    have hi1 : vs.toArray[((i : Nat) : Int).toNat]? = none := by simp; omega
    have hi2 : us.toArray[((i : Nat) : Int).toNat]? = none := by simp; omega
    rw [List.drop_of_length_le (by omega), List.drop_of_length_le (by omega)] at h
    rw [hi1, hi2]
    wp_walk using wpAny_loadPart' hl, wpAny_loadPart' hb
    show R (.ok (.ret (.bool (decide (vs.toArray.size > us.toArray.size))))) _
    rw [List.size_toArray, List.size_toArray, decide_eq_false (by omega)]
    exact h
  | succ k ih =>
    intro i hk prog w A R s h
    obtain ⟨hp, g, d, tk, os⟩ := s; obtain ⟨hl, hb, h⟩ := h
    wp_walk using wpAny_loadPart' hl, wpAny_loadPart' hb
    have hlt : i < xs.length := by omega
    have hlt2 : i < ys.length := by omega
    obtain ⟨t1, e1⟩ := strAt hS hlt
    obtain ⟨t2, e2⟩ := strAt hT hlt2
    have hi1 : vs.toArray[((i : Nat) : Int).toNat]? = some (.str xs[i] t1) := by simpa using e1
    have hi2 : us.toArray[((i : Nat) : Int).toNat]? = some (.str ys[i] t2) := by simpa using e2
    have hc : ((i : Int) + 1) = ((i + 1 : Nat) : Int) := by push_cast; rfl
    rw [List.drop_eq_getElem_cons hlt, List.drop_eq_getElem_cons hlt2] at h
    unfold lexC at h
    rw [hi1, hi2]
    refine wpAny_bind (wpAny_eqBool_str ?_)
    by_cases hb' : xs[i] = ys[i]
    · rw [decide_eq_true hb']
      rw [if_pos hb'] at h
      wp_walk
      rw [hc]
      exact ⟨plainId_quiet plain_eq_loop _, codeAny_builtin entry_eq_loop (by
        rw [Around.under_plainId plain_eq_loop _]
        exact ih (i + 1) (by omega) prog w A R _ ⟨hl, hb, h⟩)⟩
    · rw [decide_eq_false hb']
      rw [if_neg hb'] at h
      wp_walk using wpAny_loadPart' hl, wpAny_loadPart' hb
      rw [hi1, hi2]
      refine wpAny_bind (gtStr ?_)
      wp_walk
      exact h
theorem list_ltM (l b : Addr) {vs us : List Value} (n n2 : Nat) {xs ys : List Str} (hS : StrsAre vs xs) (hT : StrsAre us ys) (hlen : xs.length = ys.length) :
    Meets (Builtin.«list.__lt__» ⟨[.ref l, .ref b], []⟩)
      (fun _ R s => s.heap.get? l = some { cls := .type "list", dict := none, data := .seq vs.toArray n, slots := #[] } ∧ s.heap.get? b = some { cls := .type "list", dict := none, data := .seq us.toArray n2, slots := #[] } ∧
        R (.ok (.ret (.bool (lexC ltB xs ys)))) s) := by
  intro prog w A R s h
  obtain ⟨hp, g, d, tk, os⟩ := s; obtain ⟨hl, hb, h⟩ := h
  have f3 := AutoSeq1.sub_list_list
  wp_walk using wpAny_loadPart' hl, wpAny_loadPart' hb
  exact ⟨plainId_quiet plain_eq_loop _, codeAny_builtin entry_eq_loop (by
    rw [Around.under_plainId plain_eq_loop _]
    exact cmp_loop l b n n2 hS hT hlen _ 0 rfl prog w A R _ ⟨hl, hb, h⟩)⟩
theorem list_gtM (l b : Addr) {vs us : List Value} (n n2 : Nat) {xs ys : List Str} (hS : StrsAre vs xs) (hT : StrsAre us ys) (hlen : xs.length = ys.length) :
    Meets (Builtin.«list.__gt__» ⟨[.ref l, .ref b], []⟩)
      (fun _ R s => s.heap.get? l = some { cls := .type "list", dict := none, data := .seq vs.toArray n, slots := #[] } ∧ s.heap.get? b = some { cls := .type "list", dict := none, data := .seq us.toArray n2, slots := #[] } ∧
        R (.ok (.ret (.bool (lexC gtB xs ys)))) s) := by
  intro prog w A R s h
  obtain ⟨hp, g, d, tk, os⟩ := s; obtain ⟨hl, hb, h⟩ := h
  have f3 := AutoSeq1.sub_list_list
  wp_walk using wpAny_loadPart' hl, wpAny_loadPart' hb
  exact ⟨plainId_quiet plain_eq_loop _, codeAny_builtin entry_eq_loop (by
    rw [Around.under_plainId plain_eq_loop _]
    exact cmpG_loop l b n n2 hS hT hlen _ 0 rfl prog w A R _ ⟨hl, hb, h⟩)⟩
section
variable {prog : Program} {w : World} {A : Around} {E : Value → Shared → Prop} {s : Shared}
theorem ltLists {a b : Addr} {vs us : List Value} {n k : Nat} {xs ys : List Str} {Q : Value → Shared → Prop} (hu : A.units < cLine) (ha : s.heap.get? a = some (listOf vs.toArray n)) (hb : s.heap.get? b = some (listOf us.toArray k)) (hS : StrsAre vs xs) (hT : StrsAre us ys) (hl : xs.length = ys.length)
    (h : Q (.bool (lexC ltB xs ys)) s) : wpAny (model prog w) A (richCompare .Lt (.ref a) (.ref b)) Q E s := by
  have ta : s.TypeIs (.ref a) "list" := ⟨_, ha, rfl⟩
  have tb : s.TypeIs (.ref b) "list" := ⟨_, hb, rfl⟩
  refine wpAny_richCompare_same_room ta tb PySem.F.slot_list_lt ?_ hu
  refine wpAny_call (codeAny_call_builtin PySem.F.slot_list_lt.plain PySem.F.entry_list_lt (PySem.F.slot_list_lt.check _ _ _ _ _ _ _ _ ta (PySem.F.args_list_lt_2 _ _) (list_ltM a b n k hS hT hl prog w A (fun r s' => match r with | .ok (.ret v) => v ≠ .notImplemented ∧ Q v s' | .ok _ => False | .error e => E e s') s ⟨ha, hb, ?_⟩)))
  exact ⟨nofun, h⟩
theorem gtLists {a b : Addr} {vs us : List Value} {n k : Nat} {xs ys : List Str} {Q : Value → Shared → Prop} (hu : A.units < cLine) (ha : s.heap.get? a = some (listOf vs.toArray n)) (hb : s.heap.get? b = some (listOf us.toArray k)) (hS : StrsAre vs xs) (hT : StrsAre us ys) (hl : xs.length = ys.length)
    (h : Q (.bool (lexC gtB xs ys)) s) : wpAny (model prog w) A (richCompare .Gt (.ref a) (.ref b)) Q E s := by
  have ta : s.TypeIs (.ref a) "list" := ⟨_, ha, rfl⟩
  have tb : s.TypeIs (.ref b) "list" := ⟨_, hb, rfl⟩
  refine wpAny_richCompare_same_room ta tb PySem.F.slot_list_gt ?_ hu
  refine wpAny_call (codeAny_call_builtin PySem.F.slot_list_gt.plain PySem.F.entry_list_gt (PySem.F.slot_list_gt.check _ _ _ _ _ _ _ _ ta (PySem.F.args_list_gt_2 _ _) (list_gtM a b n k hS hT hl prog w A (fun r s' => match r with | .ok (.ret v) => v ≠ .notImplemented ∧ Q v s' | .ok _ => False | .error e => E e s') s ⟨ha, hb, ?_⟩)))
  exact ⟨nofun, h⟩
end
end Mine
end
section
open PySem PySem.W PyProof.Rows PySem.Calls PyProof.Rows.LCg
set_option Elab.async false
set_option maxRecDepth 100000
set_option maxHeartbeats 4000000
namespace Mine
section
variable {prog : Program} {w : World} {A : Around} {E : Value → Shared → Prop} {s : Shared} {h₀ : Heap} {L l a b : Addr} {m : Str → Option Value} {env : Env} {news : List (Addr × Obj)} {Q : Value → Shared → Prop}
theorem minTwo {n na nb : Nat} {vs us : List Value} {xs ys : List Str} (hh : A.handled = none) (hu : A.units + 2 < cLine) (F : Fr h₀ L s.heap m) (N : News h₀ L s.heap news) (hl : (l, listOf #[.ref a, .ref b] n) ∈ news) (ha : (a, listOf vs.toArray na) ∈ news) (hb : (b, listOf us.toArray nb) ∈ news)
    (hS : StrsAre vs xs) (hT : StrsAre us ys) (hlen : xs.length = ys.length)
    (h : ∀ h' tk, Fr h₀ L h' m → News h₀ L h' news → Q (.ref (if lexC ltB ys xs = true then b else a)) { s with heap := h', toks := tk }) :
    wpAny (model prog w) A (call (.builtin "min") [.ref l]) Q E s := by
  have hname : (toString "min" ++ toString ".loop" : String) = "min.loop" := by decide
  refine call_function_tree PySem.F.kind_min PySem.F.plain_min PySem.F.entry_min (PySem.F.args_min1 _) ?_
  show wpAny _ A.in1 (Builtin.Builtins.bindParams "min" ["key", "default"] 0 ⟨[], []⟩ >>= _) _ _ s
  refine wpAny_bind (wpAny_of_eq (show Builtin.Builtins.bindParams "min" ["key", "default"] 0 ⟨[], []⟩ = pure [none, none] from rfl) ?_)
  refine wpAny_bind (wpAny_pure ?_)
  have hol := (N _ hl).1
  have hls : s.heap.IsList l #[.ref a, .ref b] := ⟨_, hol, rfl, n, rfl⟩
  refine wpAny_bind (wpAny_pyIter_list hls ?_)
  have hlt : l < s.heap.objs.size := Heap.lt_size hol
  have W := Walks.list (prog := prog) (w := w) (A := A.in1) hh s.heap.objs.size l (Nat.ne_of_lt hlt) #[.ref a, .ref b]
  have F1 := F.push { cls := .type "list_iterator", data := .fields #[.ref l, .int 0 0] }
  have N1 := News.push F N { cls := .type "list_iterator", data := .fields #[.ref l, .int 0 0] } rfl
  have st0 : (s.heap.push { cls := .type "list_iterator", data := .fields #[.ref l, .int 0 0] }).IsListIter s.heap.objs.size l 0 ∧ (s.heap.push { cls := .type "list_iterator", data := .fields #[.ref l, .int 0 0] }).IsList l #[.ref a, .ref b] :=
    ⟨⟨_, Heap.get?_push_size _ rfl, rfl, rfl⟩, hls.at fun o e => Heap.get?_push_of_some _ e⟩
  have hnI : ∀ p ∈ news, p.1 ≠ s.heap.objs.size := fun p hp => Nat.ne_of_lt (Heap.lt_size (N p hp).1)
  generalize s.heap.push { cls := .type "list_iterator", data := .fields #[.ref l, .int 0 0] } = h1 at *
  generalize s.heap.objs.size = I at *
  refine wpAny_bind (wpAny_newObj_type ?_)
  have oI1 := N1 (I, _) (List.mem_cons_self ..)
  have F2 := F1.push ({ cls := .type "list", data := .seq ([] : List Value).toArray } : Obj)
  have N2 := News.push F1 N1 ({ cls := .type "list", data := .seq ([] : List Value).toArray } : Obj) rfl
  have hSn : ∀ p ∈ (I, ({ cls := .type "list_iterator", data := .fields #[.ref l, .int 0 0] } : Obj)) :: news, p.1 ≠ h1.objs.size := fun p hp => Nat.ne_of_lt (Heap.lt_size (N1 p hp).1)
  have st1 : (h1.push ({ cls := .type "list", data := .seq ([] : List Value).toArray } : Obj)).IsListIter I l 0 ∧ (h1.push ({ cls := .type "list", data := .seq ([] : List Value).toArray } : Obj)).IsList l #[.ref a, .ref b] :=
    ⟨st0.1.at fun o e => Heap.get?_push_of_some _ e, st0.2.at fun o e => Heap.get?_push_of_some _ e⟩
  generalize h1.push ({ cls := .type "list", data := .seq ([] : List Value).toArray } : Obj) = h2 at *
  generalize h1.objs.size = S at *
  have hSI : S ≠ I := fun e => hSn (I, _) (List.mem_cons_self ..) e.symm
  have hnS : ∀ p ∈ news, p.1 ≠ S := fun p hp => hSn p (List.mem_cons_of_mem _ hp)
  have oS := N2 (S, _) (List.mem_cons_self ..)
  have NN : News h₀ L h2 news := fun p hp => N2 p (List.mem_cons_of_mem _ (List.mem_cons_of_mem _ hp))
  rw [hname]
  refine wpAny_pure ⟨plainId_quiet PySem.F.plain_min_loop _, ?_⟩
  -- the first item
  refine codeAny_builtin PySem.F.entry_min_loop ?_
  rw [Around.under_plainId PySem.F.plain_min_loop _]
  show wpAny _ A.in1 (seqItems? (.ref S) >>= _) _ _ _
  refine wpAny_bind (wpAny_seqItems oS.1 rfl ?_)
  show wpAny _ A.in1 (tryCatch (pyNext (.ref I)) _ >>= _) _ _ _
  refine wpAny_bind (wpAny_tryCatch (W.item 0 _ _ _ (by show (0:Nat) < 2; decide) st1 fun v h3 tk3 hP st2 hk => ?_))
  have hv : v = .ref a := by simpa using hP.symm
  subst hv
  have F3 := fr_but F2 hk oI1.2.1.symm oI1.2.2
  have N3 := news_but NN hk hnI
  have oS3 := hk S _ (by simpa using hSI) oS.1
  show wpAny _ A.in1 (updateSeq S (fun _ => #[.ref a, .ref a]) >>= _) _ _ _
  refine wpAny_bind ?_
  have hs4 := Heap.SameBut.update h3 S (Obj.mapSeq fun _ => #[Value.ref a, .ref a])
  obtain ⟨c4, oS4⟩ : ∃ c, (h3.update S (Obj.mapSeq fun _ => #[Value.ref a, .ref a])).get? S = some (seqObj "list" #[.ref a, .ref a] c) := ⟨_, get?_update_seq oS3 fun _ => #[Value.ref a, .ref a]⟩
  refine wpAny_updateSeq oS3 rfl ?_
  have F4 := ksk_fr F3 hs4 oS.2.1 oS.2.2
  have N4 := ksk_news N3 hs4 hnS
  have st3 : (h3.update S (Obj.mapSeq fun _ => #[Value.ref a, .ref a])).IsListIter I l 1 ∧ (h3.update S (Obj.mapSeq fun _ => #[Value.ref a, .ref a])).IsList l #[.ref a, .ref b] :=
    ⟨st2.1.at fun o e => (hs4.2 _ hSI.symm).trans e, st2.2.at fun o e => (hs4.2 _ (hnS _ hl)).trans e⟩
  generalize h3.update S (Obj.mapSeq fun _ => #[Value.ref a, .ref a]) = h4 at *
  rw [hname]
  refine wpAny_pure ⟨plainId_quiet PySem.F.plain_min_loop _, ?_⟩
  -- the second item
  refine codeAny_builtin PySem.F.entry_min_loop ?_
  rw [Around.under_plainId PySem.F.plain_min_loop _]
  show wpAny _ A.in1 (seqItems? (.ref S) >>= _) _ _ _
  refine wpAny_bind (wpAny_seqItems oS4 rfl ?_)
  show wpAny _ A.in1 (tryCatch (pyNext (.ref I)) _ >>= _) _ _ _
  refine wpAny_bind (wpAny_tryCatch (W.item 1 _ _ _ (by show (1:Nat) < 2; decide) st3 fun v h5 tk5 hP st5 hk5 => ?_))
  have hv : v = .ref b := by simpa using hP.symm
  subst hv
  have F5 := fr_but F4 hk5 oI1.2.1.symm oI1.2.2
  have N5 := news_but N4 hk5 hnI
  have oS5 := hk5 S _ (by simpa using hSI) oS4
  show wpAny _ A.in1 (tryCatch (holding [.ref b, .ref b] (richCompare .Lt (.ref b) (.ref a) >>= _)) _ >>= _) _ _ _
  refine wpAny_bind (wpAny_tryCatch (wpAny_holding (wpAny_bind (ltLists (by show A.units + 1 < _; omega) (N5 _ hb).1 (N5 _ ha).1 hT hS hlen.symm ?_))))
  refine wpAny_bind (wpAny_holding (wpAny_truthy_bool ?_))
  refine wpAny_bind (wpAny_letGo (wpAny_pure ?_))
  have last : ∀ (x y : Addr) (h6 : Heap) (tk6 : Nat) (c6 : Nat), Fr h₀ L h6 m → News h₀ L h6 news → h6.get? S = some (seqObj "list" #[.ref x, .ref x] c6) → (h6.IsListIter I l 2 ∧ h6.IsList l #[.ref a, .ref b]) → (if lexC ltB ys xs = true then b else a) = x →
      codeAny (model prog w) A (.builtin "min.loop" ⟨[.ref I, .none, .ref S], []⟩) (fun r s' => match r with | .ok (.ret v) => Q v s' | .ok _ => False | .error e => E e s') { s with heap := h6, toks := tk6 } := by
    intro x y h6 tk6 c6 F6 N6 oS6 st6 hx
    refine codeAny_builtin PySem.F.entry_min_loop ?_
    rw [Around.under_plainId PySem.F.plain_min_loop _]
    show wpAny _ A.in1 (seqItems? (.ref S) >>= _) _ _ _
    refine wpAny_bind (wpAny_seqItems oS6 rfl ?_)
    show wpAny _ A.in1 (tryCatch (pyNext (.ref I)) _ >>= _) _ _ _
    refine wpAny_bind (wpAny_tryCatch (W.done _ _ _ st6 fun h7 tk7 hk7 => ?_))
    have F7 := fr_but F6 hk7 oI1.2.1.symm oI1.2.2
    have N7 := news_but N6 hk7 hnI
    have oS7 := hk7 S _ (by simpa using hSI) oS6
    have hs8 := Heap.SameBut.update h7 S (Obj.mapSeq fun _ => (#[] : Array Value))
    show wpAny _ A.in1 (updateSeq S (fun _ => #[]) >>= _) _ _ _
    refine wpAny_bind ?_
    refine wpAny_updateSeq oS7 rfl (wpAny_bind (wpAny_letGo (wpAny_pure ?_)))
    rw [← hx]
    exact h _ _ (ksk_fr F7 hs8 oS.2.1 oS.2.2) (ksk_news N7 hs8 hnS)
  cases hc : lexC ltB ys xs with
  | true =>
    simp only [if_true]
    refine wpAny_bind ?_
    have hs6 := Heap.SameBut.update h5 S (Obj.mapSeq fun _ => #[Value.ref b, .ref b])
    obtain ⟨c6, oS6⟩ : ∃ c, (h5.update S (Obj.mapSeq fun _ => #[Value.ref b, .ref b])).get? S = some (seqObj "list" #[.ref b, .ref b] c) := ⟨_, get?_update_seq oS5 fun _ => #[Value.ref b, .ref b]⟩
    refine wpAny_updateSeq oS5 rfl (wpAny_bind (wpAny_letGo ?_))
    rw [hname]
    refine wpAny_pure ⟨plainId_quiet PySem.F.plain_min_loop _, last b b _ _ c6 (ksk_fr F5 hs6 oS.2.1 oS.2.2) (ksk_news N5 hs6 hnS) oS6 ⟨st5.1.at fun o e => (hs6.2 _ hSI.symm).trans e, st5.2.at fun o e => (hs6.2 _ (hnS _ hl)).trans e⟩ (by rw [if_pos hc])⟩
  | false =>
    simp only [Bool.false_eq_true, if_false]
    refine wpAny_bind (wpAny_letGo ?_)
    rw [hname]
    refine wpAny_pure ⟨plainId_quiet PySem.F.plain_min_loop _, last a a _ _ c4 F5 N5 oS5 st5 (by rw [if_neg (by rw [hc]; decide)])⟩
theorem maxTwo {n na nb : Nat} {vs us : List Value} {xs ys : List Str} (hh : A.handled = none) (hu : A.units + 2 < cLine) (F : Fr h₀ L s.heap m) (N : News h₀ L s.heap news) (hl : (l, listOf #[.ref a, .ref b] n) ∈ news) (ha : (a, listOf vs.toArray na) ∈ news) (hb : (b, listOf us.toArray nb) ∈ news)
    (hS : StrsAre vs xs) (hT : StrsAre us ys) (hlen : xs.length = ys.length)
    (h : ∀ h' tk, Fr h₀ L h' m → News h₀ L h' news → Q (.ref (if lexC gtB ys xs = true then b else a)) { s with heap := h', toks := tk }) :
    wpAny (model prog w) A (call (.builtin "max") [.ref l]) Q E s := by
  have hname : (toString "max" ++ toString ".loop" : String) = "max.loop" := by decide
  refine call_function_tree PySem.F.kind_max PySem.F.plain_max PySem.F.entry_max (PySem.F.args_max1 _) ?_
  show wpAny _ A.in1 (Builtin.Builtins.bindParams "max" ["key", "default"] 0 ⟨[], []⟩ >>= _) _ _ s
  refine wpAny_bind (wpAny_of_eq (show Builtin.Builtins.bindParams "max" ["key", "default"] 0 ⟨[], []⟩ = pure [none, none] from rfl) ?_)
  refine wpAny_bind (wpAny_pure ?_)
  have hol := (N _ hl).1
  have hls : s.heap.IsList l #[.ref a, .ref b] := ⟨_, hol, rfl, n, rfl⟩
  refine wpAny_bind (wpAny_pyIter_list hls ?_)
  have hlt : l < s.heap.objs.size := Heap.lt_size hol
  have W := Walks.list (prog := prog) (w := w) (A := A.in1) hh s.heap.objs.size l (Nat.ne_of_lt hlt) #[.ref a, .ref b]
  have F1 := F.push { cls := .type "list_iterator", data := .fields #[.ref l, .int 0 0] }
  have N1 := News.push F N { cls := .type "list_iterator", data := .fields #[.ref l, .int 0 0] } rfl
  have st0 : (s.heap.push { cls := .type "list_iterator", data := .fields #[.ref l, .int 0 0] }).IsListIter s.heap.objs.size l 0 ∧ (s.heap.push { cls := .type "list_iterator", data := .fields #[.ref l, .int 0 0] }).IsList l #[.ref a, .ref b] :=
    ⟨⟨_, Heap.get?_push_size _ rfl, rfl, rfl⟩, hls.at fun o e => Heap.get?_push_of_some _ e⟩
  have hnI : ∀ p ∈ news, p.1 ≠ s.heap.objs.size := fun p hp => Nat.ne_of_lt (Heap.lt_size (N p hp).1)
  generalize s.heap.push { cls := .type "list_iterator", data := .fields #[.ref l, .int 0 0] } = h1 at *
  generalize s.heap.objs.size = I at *
  refine wpAny_bind (wpAny_newObj_type ?_)
  have oI1 := N1 (I, _) (List.mem_cons_self ..)
  have F2 := F1.push ({ cls := .type "list", data := .seq ([] : List Value).toArray } : Obj)
  have N2 := News.push F1 N1 ({ cls := .type "list", data := .seq ([] : List Value).toArray } : Obj) rfl
  have hSn : ∀ p ∈ (I, ({ cls := .type "list_iterator", data := .fields #[.ref l, .int 0 0] } : Obj)) :: news, p.1 ≠ h1.objs.size := fun p hp => Nat.ne_of_lt (Heap.lt_size (N1 p hp).1)
  have st1 : (h1.push ({ cls := .type "list", data := .seq ([] : List Value).toArray } : Obj)).IsListIter I l 0 ∧ (h1.push ({ cls := .type "list", data := .seq ([] : List Value).toArray } : Obj)).IsList l #[.ref a, .ref b] :=
    ⟨st0.1.at fun o e => Heap.get?_push_of_some _ e, st0.2.at fun o e => Heap.get?_push_of_some _ e⟩
  generalize h1.push ({ cls := .type "list", data := .seq ([] : List Value).toArray } : Obj) = h2 at *
  generalize h1.objs.size = S at *
  have hSI : S ≠ I := fun e => hSn (I, _) (List.mem_cons_self ..) e.symm
  have hnS : ∀ p ∈ news, p.1 ≠ S := fun p hp => hSn p (List.mem_cons_of_mem _ hp)
  have oS := N2 (S, _) (List.mem_cons_self ..)
  have NN : News h₀ L h2 news := fun p hp => N2 p (List.mem_cons_of_mem _ (List.mem_cons_of_mem _ hp))
  rw [hname]
  refine wpAny_pure ⟨plainId_quiet PySem.F.plain_max_loop _, ?_⟩
  -- the first item
  refine codeAny_builtin PySem.F.entry_max_loop ?_
  rw [Around.under_plainId PySem.F.plain_max_loop _]
  show wpAny _ A.in1 (seqItems? (.ref S) >>= _) _ _ _
  refine wpAny_bind (wpAny_seqItems oS.1 rfl ?_)
  show wpAny _ A.in1 (tryCatch (pyNext (.ref I)) _ >>= _) _ _ _
  refine wpAny_bind (wpAny_tryCatch (W.item 0 _ _ _ (by show (0:Nat) < 2; decide) st1 fun v h3 tk3 hP st2 hk => ?_))
  have hv : v = .ref a := by simpa using hP.symm
  subst hv
  have F3 := fr_but F2 hk oI1.2.1.symm oI1.2.2
  have N3 := news_but NN hk hnI
  have oS3 := hk S _ (by simpa using hSI) oS.1
  show wpAny _ A.in1 (updateSeq S (fun _ => #[.ref a, .ref a]) >>= _) _ _ _
  refine wpAny_bind ?_
  have hs4 := Heap.SameBut.update h3 S (Obj.mapSeq fun _ => #[Value.ref a, .ref a])
  obtain ⟨c4, oS4⟩ : ∃ c, (h3.update S (Obj.mapSeq fun _ => #[Value.ref a, .ref a])).get? S = some (seqObj "list" #[.ref a, .ref a] c) := ⟨_, get?_update_seq oS3 fun _ => #[Value.ref a, .ref a]⟩
  refine wpAny_updateSeq oS3 rfl ?_
  have F4 := ksk_fr F3 hs4 oS.2.1 oS.2.2
  have N4 := ksk_news N3 hs4 hnS
  have st3 : (h3.update S (Obj.mapSeq fun _ => #[Value.ref a, .ref a])).IsListIter I l 1 ∧ (h3.update S (Obj.mapSeq fun _ => #[Value.ref a, .ref a])).IsList l #[.ref a, .ref b] :=
    ⟨st2.1.at fun o e => (hs4.2 _ hSI.symm).trans e, st2.2.at fun o e => (hs4.2 _ (hnS _ hl)).trans e⟩
  generalize h3.update S (Obj.mapSeq fun _ => #[Value.ref a, .ref a]) = h4 at *
  rw [hname]
  refine wpAny_pure ⟨plainId_quiet PySem.F.plain_max_loop _, ?_⟩
  -- the second item
  refine codeAny_builtin PySem.F.entry_max_loop ?_
  rw [Around.under_plainId PySem.F.plain_max_loop _]
  show wpAny _ A.in1 (seqItems? (.ref S) >>= _) _ _ _
  refine wpAny_bind (wpAny_seqItems oS4 rfl ?_)
  show wpAny _ A.in1 (tryCatch (pyNext (.ref I)) _ >>= _) _ _ _
  refine wpAny_bind (wpAny_tryCatch (W.item 1 _ _ _ (by show (1:Nat) < 2; decide) st3 fun v h5 tk5 hP st5 hk5 => ?_))
  have hv : v = .ref b := by simpa using hP.symm
  subst hv
  have F5 := fr_but F4 hk5 oI1.2.1.symm oI1.2.2
  have N5 := news_but N4 hk5 hnI
  have oS5 := hk5 S _ (by simpa using hSI) oS4
  show wpAny _ A.in1 (tryCatch (holding [.ref b, .ref b] (richCompare .Gt (.ref b) (.ref a) >>= _)) _ >>= _) _ _ _
  refine wpAny_bind (wpAny_tryCatch (wpAny_holding (wpAny_bind (gtLists (by show A.units + 1 < _; omega) (N5 _ hb).1 (N5 _ ha).1 hT hS hlen.symm ?_))))
  refine wpAny_bind (wpAny_holding (wpAny_truthy_bool ?_))
  refine wpAny_bind (wpAny_letGo (wpAny_pure ?_))
  have last : ∀ (x y : Addr) (h6 : Heap) (tk6 : Nat) (c6 : Nat), Fr h₀ L h6 m → News h₀ L h6 news → h6.get? S = some (seqObj "list" #[.ref x, .ref x] c6) → (h6.IsListIter I l 2 ∧ h6.IsList l #[.ref a, .ref b]) → (if lexC gtB ys xs = true then b else a) = x →
      codeAny (model prog w) A (.builtin "max.loop" ⟨[.ref I, .none, .ref S], []⟩) (fun r s' => match r with | .ok (.ret v) => Q v s' | .ok _ => False | .error e => E e s') { s with heap := h6, toks := tk6 } := by
    intro x y h6 tk6 c6 F6 N6 oS6 st6 hx
    refine codeAny_builtin PySem.F.entry_max_loop ?_
    rw [Around.under_plainId PySem.F.plain_max_loop _]
    show wpAny _ A.in1 (seqItems? (.ref S) >>= _) _ _ _
    refine wpAny_bind (wpAny_seqItems oS6 rfl ?_)
    show wpAny _ A.in1 (tryCatch (pyNext (.ref I)) _ >>= _) _ _ _
    refine wpAny_bind (wpAny_tryCatch (W.done _ _ _ st6 fun h7 tk7 hk7 => ?_))
    have F7 := fr_but F6 hk7 oI1.2.1.symm oI1.2.2
    have N7 := news_but N6 hk7 hnI
    have oS7 := hk7 S _ (by simpa using hSI) oS6
    have hs8 := Heap.SameBut.update h7 S (Obj.mapSeq fun _ => (#[] : Array Value))
    show wpAny _ A.in1 (updateSeq S (fun _ => #[]) >>= _) _ _ _
    refine wpAny_bind ?_
    refine wpAny_updateSeq oS7 rfl (wpAny_bind (wpAny_letGo (wpAny_pure ?_)))
    rw [← hx]
    exact h _ _ (ksk_fr F7 hs8 oS.2.1 oS.2.2) (ksk_news N7 hs8 hnS)
  cases hc : lexC gtB ys xs with
  | true =>
    simp only [if_true]
    refine wpAny_bind ?_
    have hs6 := Heap.SameBut.update h5 S (Obj.mapSeq fun _ => #[Value.ref b, .ref b])
    obtain ⟨c6, oS6⟩ : ∃ c, (h5.update S (Obj.mapSeq fun _ => #[Value.ref b, .ref b])).get? S = some (seqObj "list" #[.ref b, .ref b] c) := ⟨_, get?_update_seq oS5 fun _ => #[Value.ref b, .ref b]⟩
    refine wpAny_updateSeq oS5 rfl (wpAny_bind (wpAny_letGo ?_))
    rw [hname]
    refine wpAny_pure ⟨plainId_quiet PySem.F.plain_max_loop _, last b b _ _ c6 (ksk_fr F5 hs6 oS.2.1 oS.2.2) (ksk_news N5 hs6 hnS) oS6 ⟨st5.1.at fun o e => (hs6.2 _ hSI.symm).trans e, st5.2.at fun o e => (hs6.2 _ (hnS _ hl)).trans e⟩ (by rw [if_pos hc])⟩
  | false =>
    simp only [Bool.false_eq_true, if_false]
    refine wpAny_bind (wpAny_letGo ?_)
    rw [hname]
    refine wpAny_pure ⟨plainId_quiet PySem.F.plain_max_loop _, last a a _ _ c4 F5 N5 oS5 st5 (by rw [if_neg (by rw [hc]; decide)])⟩
end
end Mine
end
section
open PySem PySem.W PyProof.Rows PySem.Calls PyProof.Rows.LCg
set_option Elab.async false
set_option maxRecDepth 100000
set_option maxHeartbeats 4000000
namespace Mine
def EnumStep (h₀ : Heap) (L : Addr) (led : List (Addr × Obj)) (J : (Str → Option Value) → Prop) (s : Shared) (Q : Flow → Shared → Prop) (f : Flow) (s₂ : Shared) : Prop :=
  match f with
  | .ret v => Q (.ret v) s₂
  | .brk => Q .next s₂
  | _ => ∃ h' tk m', s₂ = { s with heap := h', toks := tk } ∧ Fr h₀ L h' m' ∧ News h₀ L h' led ∧ J m'
section
variable {prog : Program} {w : World} {A : Around} {E : Value → Shared → Prop} {s : Shared} {env : Env} {h₀ : Heap} {Q : Flow → Shared → Prop}
theorem forEnum {xi xc : Str} {pk pv pt : Pos} {x1 : Nat} {body : List Stmt} {l : Addr} {vs : List Value} {nn : Nat} {m : Str → Option Value} {news : List (Addr × Obj)} (J : Nat → (Str → Option Value) → Prop)
    (hh : A.handled = none) (hl : (l, listOf vs.toArray nn) ∈ news) (hxi : env.kindOf xi = some .local) (hxc : env.kindOf xc = some .local)
    (hp : (env.scope.kind == .class || (env.scope.kind == .module && env.locals != env.globals)) = false)
    (F : Fr h₀ env.locals s.heap m) (N : News h₀ env.locals s.heap news) (hj : J 0 m)
    (turn : ∀ i v tq m₁ h tk (e it : Addr) oe oi, vs[i]? = some v → (∀ p ∈ news, p.1 < it) → @LT.lt Nat _ it e → J i m₁ → Fr h₀ env.locals h (fun y => if y = xc then some v else if y = xi then some (.int (i : Int) tq) else m₁ y) → News h₀ env.locals h ((e, oe) :: (it, oi) :: news) →
      wpAny (model prog w) A (execs body env) (EnumStep h₀ env.locals ((e, oe) :: (it, oi) :: news) (J (i + 1)) s Q) E { s with heap := h, toks := tk })
    (done : ∀ m₁ h tk, J vs.length m₁ → Fr h₀ env.locals h m₁ → News h₀ env.locals h news → Q .next { s with heap := h, toks := tk })
    (hE : PassesOwn (model prog w) A env E) :
    wpAny (model prog w) A (call (.type "enumerate") [.ref l]) (fun xv s₁ => wpAny (model prog w) A (pyIter xv) (fun it s₂ => codeAny (model prog w) A (.forLoop (.Tuple [.Name xi pk, .Name xc pv] x1 pt) it body [] env) (fun r s' => match r with | .ok f => Q f s' | .error e => cameBackBy (model prog w) A env E e s') s₂) E s₁) E s := by
  have hol := (N _ hl).1
  refine call_enumerate_1 hol fun h1 hen hit hsz keep => ?_
  have hnlt : ∀ p ∈ news, p.1 < s.heap.objs.size := fun p hp => Heap.lt_size (N p hp).1
  have hLlt : env.locals < s.heap.objs.size := F.ns.lt
  have F1 := F.keeps keep
  have N1 : News h₀ env.locals h1 news := N.grown keep
  have h0n : ∀ a, s.heap.objs.size ≤ a → h₀.get? a = none := fun a ha => by
    cases e : h₀.get? a with
    | none => rfl
    | some o => exact absurd (Heap.lt_size (F.keep a o e)) (Nat.not_lt.mpr ha)
  have ge := h0n (s.heap.objs.size + 1) (Nat.le_succ _)
  have gi := h0n s.heap.objs.size (Nat.le_refl _)
  have hls : h1.IsList l vs.toArray := ⟨_, keep _ _ hol, rfl, nn, rfl⟩
  have hlit : l < s.heap.objs.size := hnlt _ hl
  clear h0n keep hsz hol
  generalize he : s.heap.objs.size + 1 = e at *
  generalize s.heap.objs.size = it at *
  have hie : it < e := by rw [← he]; exact Nat.lt_succ_self _
  refine wpAny_pyIter_enum (s := { s with heap := h1 }) hen ?_
  have W := WalksT.enumerate (prog := prog) (w := w) hh e it l (Nat.ne_of_gt hie) (Nat.ne_of_lt (Nat.lt_trans hlit hie)) (Nat.ne_of_lt hlit) vs.toArray
  have hLe : env.locals ≠ e := Nat.ne_of_lt (Nat.lt_trans hLlt hie)
  have hLi : env.locals ≠ it := Nat.ne_of_lt hLlt
  have hLf : env.locals ∉ [e, it] := by simp [hLe, hLi]
  have old : ∀ b o, h₀.get? b = some o → b ∉ [e, it] := fun b o x hb => by
    rcases List.mem_cons.mp hb with rfl | hb
    · rw [ge] at x; cases x
    · rw [List.mem_singleton.mp hb, gi] at x; cases x
  have hnw : ∀ p ∈ news, p.1 ∉ [e, it] := fun p hp hb => by
    have := hnlt p hp
    rcases List.mem_cons.mp hb with h | hb
    · rw [h] at this; exact Nat.lt_irrefl _ (Nat.lt_trans this hie)
    · rw [List.mem_singleton.mp hb] at this; exact Nat.lt_irrefl _ this
  refine codeAny_forLoop_any (R := fun r s' => match r with | .ok f => Q f s' | .error e => cameBackBy (model prog w) A env E e s')
    (fun k s' => ∃ (h' : Heap) (tk : Nat) (m' : Str → Option Value) (i : Nat), s' = { s with heap := h', toks := tk } ∧ ((∃ old, IsEnum h' e it i old) ∧ h'.IsListIter it l i ∧ h'.IsList l vs.toArray) ∧ Fr h₀ env.locals h' m' ∧ News h₀ env.locals h' news ∧ J i m' ∧ i ≤ vs.toArray.size ∧ k = vs.toArray.size + 1 - i) ?_ (vs.toArray.size + 1)
    ⟨h1, s.toks, m, 0, rfl, ⟨⟨_, hen⟩, hit, hls⟩, F1, N1, hj, Nat.zero_le _, rfl⟩
  rintro k s' ⟨H, tk, m', i, rfl, hst', F', N', hJ, hi, rfl⟩
  have next : ∀ h₁ : Heap, (∀ b o, b ∉ [e, it] → H.get? b = some o → h₁.get? b = some o) → Fr h₀ env.locals h₁ m' ∧ News h₀ env.locals h₁ news := fun h₁ hk₁ =>
    ⟨⟨F'.ns.at' fun o x => hk₁ _ o hLf x, fun b o x => hk₁ b o (old b o x) (F'.keep b o x), F'.above⟩, fun p hp => ⟨hk₁ _ _ (hnw p hp) (N' p hp).1, (N' p hp).2⟩⟩
  by_cases hlt : i < vs.toArray.size
  · refine W.item i _ _ _ hlt hst' fun T vals h₁ tk₁ hPt _ hT hMid hk₁ => ?_
    obtain ⟨tq, v, hv, rfl⟩ := hPt
    refine wpAny_passesOwn hE (W.go _ x1 pt i T _ _ _ hMid fun h₂ hst₂ hk₂ => ?_)
    have ht₂ : h₂.IsTuple T #[.int i tq, v] := hT.at fun o x => hk₂ T o (W.apart i T h₁ hMid) x
    refine wpAny_passesOwn hE (wpAny_assign_Tuple hh ht₂ rfl rfl fun h₃ hx₃ => ?_)
    replace hx₃ : Heap.ExtBut h₂.objs.size h₂ h₃ := hx₃
    have up₃ : ∀ b o, h₂.get? b = some o → h₃.get? b = some o := fun b o x => hx₃ b o (Nat.ne_of_lt (Heap.lt_size x)) x
    obtain ⟨F₃, N₃⟩ := next h₃ fun b o hb x => up₃ b o (hk₂ b o hb (hk₁ b o hb x))
    show wpAny _ A (do holding [v] (assign (.Name xi pk) env (.int i tq)); do holding [] (assign (.Name xc pv) env v); pure ()) _ _ _
    refine wpAny_bind (wpAny_holding (wpAny_assign_Name (wpAny_storeName_local hxi F₃.ns (fun h₄ hn₄ hs₄ => ?_) hp)))
    replace hs₄ : Heap.SameBut env.locals h₃ h₄ := hs₄
    have F₄ := F₃.set hn₄ hs₄
    refine wpAny_bind (wpAny_holding (wpAny_assign_Name (wpAny_storeName_local hxc F₄.ns (fun h₅ hn₅ hs₅ => wpAny_pure ?_) hp)))
    replace hs₅ : Heap.SameBut env.locals h₄ h₅ := hs₅
    have F₅ := F₄.set hn₅ hs₅
    have N₅ : News h₀ env.locals h₅ news := (N₃.set hs₄).set hs₅
    have keep₅ : ∀ b o, b ≠ env.locals → h₂.get? b = some o → h₅.get? b = some o := fun b o hb x => hs₅.extBut b o hb (hs₄.extBut b o hb (up₃ b o x))
    obtain ⟨⟨old5, he5⟩, ⟨oi5, hi5, hc5, hd5⟩, hl5⟩ := hst₂
    obtain ⟨oe, hoe, he6⟩ : ∃ oe : Obj, (({ cls := .type "enumerate", dict := none, data := .fields #[.none, .bool false, .ref it, rawInt ((i + 1 : Nat) : Int), .none, old5], slots := #[] } : Obj) = oe) ∧ h₅.get? e = some oe := ⟨_, rfl, keep₅ e _ hLe.symm he5⟩
    have hi6 := keep₅ it _ hLi.symm hi5
    have NN : News h₀ env.locals h₅ ((e, oe) :: (it, oi5) :: news) := fun p hp => by
      rcases List.mem_cons.mp hp with rfl | hp
      · exact ⟨he6, hLe.symm, ge⟩
      · rcases List.mem_cons.mp hp with rfl | hp
        · exact ⟨hi6, hLi.symm, gi⟩
        · exact N₅ p hp
    have fin : ∀ s₃, (∃ h' tk m', s₃ = ({ s with heap := h', toks := tk } : Shared) ∧ Fr h₀ env.locals h' m' ∧ News h₀ env.locals h' ((e, oe) :: (it, oi5) :: news) ∧ J (i + 1) m') →
        ∃ mm, mm < vs.toArray.size + 1 - i ∧ ∃ (h' : Heap) (tk : Nat) (m' : Str → Option Value) (i' : Nat), s₃ = ({ s with heap := h', toks := tk } : Shared) ∧ ((∃ old, IsEnum h' e it i' old) ∧ h'.IsListIter it l i' ∧ h'.IsList l vs.toArray) ∧ Fr h₀ env.locals h' m' ∧ News h₀ env.locals h' news ∧ J i' m' ∧ i' ≤ vs.toArray.size ∧ mm = vs.toArray.size + 1 - i' := by
      rintro s₃ ⟨h6, tk6, m6, rfl, F6, N6, hJ6⟩
      have n6 : News h₀ env.locals h6 news := fun p hp => N6 p (List.mem_cons_of_mem _ (List.mem_cons_of_mem _ hp))
      exact ⟨vs.toArray.size + 1 - (i + 1), by omega, h6, tk6, m6, i + 1, rfl, ⟨⟨old5, (N6 (e, oe) (List.mem_cons_self ..)).1.trans (congrArg some hoe.symm)⟩, ⟨oi5, (N6 (it, oi5) (List.mem_cons_of_mem _ (List.mem_cons_self ..))).1, hc5, hd5⟩, ⟨_, (n6 _ hl).1, rfl, nn, rfl⟩⟩, F6, n6, hJ6, hlt, rfl⟩
    refine wpAny_passesOwn hE (wpAny_mono (turn i v tq m' h₅ _ e it oe oi5 (by simpa using hv) hnlt hie hJ F₅ NN) (fun f s₃ h₆ => ?_) fun _ _ x => x)
    cases f with
    | ret v => exact h₆
    | brk => exact h₆
    | cont => exact fin _ h₆
    | next => exact fin _ h₆
  · have hin : i = vs.toArray.size := by omega
    subst hin
    refine W.done _ _ _ hst' fun h₁ tk₁ hk₁ => wpAny_execs_nil ?_
    obtain ⟨F₁, N₁⟩ := next h₁ hk₁
    rw [List.size_toArray] at hJ
    exact done m' h₁ tk₁ hJ F₁ N₁
theorem minTwo' {l a b : Addr} {m : Str → Option Value} {L : Addr} {n na nb : Nat} {vs us : List Value} {xs ys : List Str} {news : List (Addr × Obj)} {Q : Value → Shared → Prop} (hh : A.handled = none) (hu : A.units + 2 < cLine) (F : Fr h₀ L s.heap m) (N : News h₀ L s.heap news) (hl : (l, listOf #[.ref a, .ref b] n) ∈ news) (ha : (a, listOf vs.toArray na) ∈ news) (hb : (b, listOf us.toArray nb) ∈ news)
    (hS : StrsAre vs xs) (hT : StrsAre us ys) (hlen : xs.length = ys.length)
    (h : ∀ P zP nP ps h' tk, Fr h₀ L h' m → News h₀ L h' ((P, listOf (List.toArray zP) nP) :: news) → StrsAre zP ps → (if lexC ltB ys xs = true then ys else xs) = ps → Q (.ref P) { s with heap := h', toks := tk }) :
    wpAny (model prog w) A (call (.builtin "min") [.ref l]) Q E s := by
  refine minTwo hh hu F N hl ha hb hS hT hlen fun h' tk F' N' => ?_
  by_cases hc : lexC ltB ys xs = true
  · rw [if_pos hc]
    exact h b us nb ys h' tk F' (fun p hp => by rcases List.mem_cons.mp hp with rfl | hp; exact N' _ hb; exact N' p hp) hT (by rw [if_pos hc])
  · rw [if_neg hc]
    exact h a vs na xs h' tk F' (fun p hp => by rcases List.mem_cons.mp hp with rfl | hp; exact N' _ ha; exact N' p hp) hS (by rw [if_neg hc])
theorem maxTwo' {l a b : Addr} {m : Str → Option Value} {L : Addr} {n na nb : Nat} {vs us : List Value} {xs ys : List Str} {news : List (Addr × Obj)} {Q : Value → Shared → Prop} (hh : A.handled = none) (hu : A.units + 2 < cLine) (F : Fr h₀ L s.heap m) (N : News h₀ L s.heap news) (hl : (l, listOf #[.ref a, .ref b] n) ∈ news) (ha : (a, listOf vs.toArray na) ∈ news) (hb : (b, listOf us.toArray nb) ∈ news)
    (hS : StrsAre vs xs) (hT : StrsAre us ys) (hlen : xs.length = ys.length)
    (h : ∀ P zP nP ps h' tk, Fr h₀ L h' m → News h₀ L h' ((P, listOf (List.toArray zP) nP) :: news) → StrsAre zP ps → (if lexC gtB ys xs = true then ys else xs) = ps → Q (.ref P) { s with heap := h', toks := tk }) :
    wpAny (model prog w) A (call (.builtin "max") [.ref l]) Q E s := by
  refine maxTwo hh hu F N hl ha hb hS hT hlen fun h' tk F' N' => ?_
  by_cases hc : lexC gtB ys xs = true
  · rw [if_pos hc]
    exact h b us nb ys h' tk F' (fun p hp => by rcases List.mem_cons.mp hp with rfl | hp; exact N' _ hb; exact N' p hp) hT (by rw [if_pos hc])
  · rw [if_neg hc]
    exact h a vs na xs h' tk F' (fun p hp => by rcases List.mem_cons.mp hp with rfl | hp; exact N' _ ha; exact N' p hp) hS (by rw [if_neg hc])
end
end Mine
end
section
open PySem PySem.W PyProof.Rows PySem.Calls
set_option Elab.async false
set_option maxRecDepth 100000
set_option maxHeartbeats 4000000
namespace Mine
def comPre : List Str → List Str → List Str
  | a :: r, b :: t => if a = b then a :: comPre r t else []
  | _, _ => []
theorem strs_values : ∀ {vs : List Value} {ss : List Str}, StrsAre vs ss → ∃ l : List (Str × Tok), strValues l = vs ∧ l.map (·.1) = ss
  | _, _, .nil => ⟨[], rfl, rfl⟩
  | _, _, .cons x t h => by
    obtain ⟨l, e1, e2⟩ := strs_values h
    exact ⟨(x, t) :: l, by show Value.str x t :: strValues l = _; rw [e1], by rw [List.map_cons, e2]⟩
theorem sum_le {B : Nat} : ∀ {l : List Str}, (∀ z ∈ l, z.length ≤ B) → (l.map (·.length)).sum ≤ l.length * B
  | [], _ => by simp
  | a :: l, h => by
    have h1 := h a (List.mem_cons_self ..)
    have h2 := sum_le fun z hz => h z (List.mem_cons_of_mem _ hz)
    rw [List.map_cons, List.sum_cons, List.length_cons, Nat.add_mul]
    omega
theorem joinK {prog : Program} {w : World} {A : Around} {E : Value → Shared → Prop} {s : Shared} {h₀ : Heap} {L D : Addr} {n : Nat} {news : List (Addr × Obj)} {Q : Value → Shared → Prop} {t : Tok} {vs : List Value} {ss : List Str} (N : News h₀ L s.heap news) (hl : (D, listOf vs.toArray n) ∈ news) (hS : StrsAre vs ss) (h5 : ss.length ≤ 5) (hz : ∀ z ∈ ss, z.length ≤ 1000)
    (h : ∀ t' k, (Txt.join (Str.ofString "/") ss).length ≤ 6000 → Q (.str (Txt.join (Str.ofString "/") ss) t') { s with toks := k }) :
    wpAny (model prog w) A (call (.builtin "str.join") [.str (Str.ofString "/") t, .ref D]) Q E s := by
  obtain ⟨l, e1, e2⟩ := strs_values hS
  have hs1 : (Str.ofString "/").length = 1 := by decide
  have hw := sum_le hz
  have hb : (ss.map (·.length)).sum ≤ 5000 := Nat.le_trans hw (by omega)
  refine PySem.SC.join (l := l) (by rw [e1]; exact lstAt N hl) e2 (joinOk_of (by rw [hs1]; omega)) fun t' k => h t' k ?_
  have := StrLaws.join_length_le (Str.ofString "/") ss
  rw [hs1] at this
  unfold Txt.join
  rw [StrLaws.glued_eq_join]
  omega
theorem comPre_at {i : Nat} {c0 d0 : Str} : ∀ {ps rs : List Str}, ps.take i = rs.take i → ps[i]? = some c0 → rs[i]? = some d0 → c0 ≠ d0 → comPre ps rs = ps.take i := by
  induction i with
  | zero =>
    intro ps rs _ h1 h2 hne
    cases ps with
    | nil => simp at h1
    | cons a r => cases rs with
      | nil => simp at h2
      | cons b t =>
        simp at h1 h2
        subst h1 h2
        show (if a = b then a :: comPre r t else []) = []
        rw [if_neg hne]
  | succ i ih =>
    intro ps rs h h1 h2 hne
    cases ps with
    | nil => simp at h1
    | cons a r => cases rs with
      | nil => simp at h2
      | cons b t =>
        simp only [List.take_succ_cons, List.cons.injEq] at h
        obtain ⟨rfl, h⟩ := h
        show (if a = a then a :: comPre r t else []) = _
        rw [if_pos rfl, List.take_succ_cons, ih h (by simpa using h1) (by simpa using h2) hne]
theorem comPre_self : ∀ ps : List Str, comPre ps ps = ps
  | [] => rfl
  | a :: r => by show (if a = a then a :: comPre r r else []) = _; rw [if_pos rfl, comPre_self r]
theorem comPre_comm : ∀ ps rs : List Str, comPre ps rs = comPre rs ps
  | [], [] => rfl
  | [], _ :: _ => rfl
  | _ :: _, [] => rfl
  | a :: r, b :: t => by
    show (if a = b then a :: comPre r t else []) = (if b = a then b :: comPre t r else [])
    by_cases h : a = b
    · subst h; rw [if_pos rfl, if_pos rfl, comPre_comm r t]
    · rw [if_neg h, if_neg fun e => h e.symm]
theorem cps_eq {a b : Str} (h : a.cps.toList = b.cps.toList) : a = b := by
  obtain ⟨x⟩ := a
  obtain ⟨y⟩ := b
  have : x = y := Array.toList_inj.mp h
  rw [this]
theorem lex_part : ∀ {xs ys : List Str}, xs.length = ys.length → lexC ltB ys xs = false → lexC gtB ys xs = false → xs = ys
  | [], [], _, _, _ => rfl
  | [], _ :: _, h, _, _ => by simp at h
  | _ :: _, [], h, _, _ => by simp at h
  | a :: r, b :: t, h, h1, h2 => by
    have h1' : (if b = a then lexC ltB t r else ltB b a) = false := h1
    have h2' : (if b = a then lexC gtB t r else gtB b a) = false := h2
    by_cases e : b = a
    · rw [if_pos e] at h1' h2'
      rw [e, lex_part (by simpa using h) h1' h2']
    · rw [if_neg e] at h1' h2'
      unfold ltB at h1'
      unfold gtB at h2'
      exact absurd (cps_eq (List.le_antisymm (of_decide_eq_false h2') (of_decide_eq_false h1'))) e
theorem lex_both : ∀ {xs ys : List Str}, lexC ltB ys xs = true → lexC gtB ys xs = true → False
  | [], [], h, _ => by cases h
  | [], _ :: _, h, _ => by cases h
  | _ :: _, [], h, _ => by cases h
  | a :: r, b :: t, h1, h2 => by
    have h1' : (if b = a then lexC ltB t r else ltB b a) = true := h1
    have h2' : (if b = a then lexC gtB t r else gtB b a) = true := h2
    by_cases e : b = a
    · rw [if_pos e] at h1' h2'
      exact lex_both h1' h2'
    · rw [if_neg e] at h1' h2'
      exact absurd (List.lt_trans (of_decide_eq_true h1') (of_decide_eq_true h2')) (List.lt_irrefl _)
theorem comPre_of {xs ys ps rs : List Str} (hl : xs.length = ys.length) (hP : (if lexC ltB ys xs = true then ys else xs) = ps) (hR : (if lexC gtB ys xs = true then ys else xs) = rs) : comPre ps rs = comPre xs ys := by
  by_cases h1 : lexC ltB ys xs = true
  · by_cases h2 : lexC gtB ys xs = true
    · exact (lex_both h1 h2).elim
    · rw [if_pos h1] at hP
      rw [if_neg h2] at hR
      subst hP hR
      exact comPre_comm _ _
  · by_cases h2 : lexC gtB ys xs = true
    · rw [if_neg h1] at hP
      rw [if_pos h2] at hR
      subst hP hR
      rfl
    · rw [if_neg h1] at hP
      rw [if_neg h2] at hR
      have e := lex_part hl (by simpa using h1) (by simpa using h2)
      subst hP hR
      rw [e]
theorem frMap {g h : Heap} {L : Addr} {m₁ M : Str → Option Value} {v w : Value} (F : Fr g L h (fun y => if y = Str.ofString "c" then some v else if y = Str.ofString "i" then some w else m₁ y)) (hM : ∀ z, [Str.ofString "i", Str.ofString "c"].contains z = false → m₁ z = M z) :
    Fr g L h (fun y => if y = Str.ofString "c" then some v else if y = Str.ofString "i" then some w else M y) := by
  have e : (fun y => if y = Str.ofString "c" then some v else if y = Str.ofString "i" then some w else m₁ y) = (fun y => if y = Str.ofString "c" then some v else if y = Str.ofString "i" then some w else M y) := by
    funext y
    by_cases h1 : y = Str.ofString "c"
    · rw [if_pos h1, if_pos h1]
    · rw [if_neg h1, if_neg h1]
      by_cases h2 : y = Str.ofString "i"
      · rw [if_pos h2, if_pos h2]
      · rw [if_neg h2, if_neg h2]
        exact hM y (by simp [h1, h2])
  rw [← e]; exact F
def EnJ (ps rs : List Str) (M : Str → Option Value) (i : Nat) (m₁ : Str → Option Value) : Prop := ps.take i = rs.take i ∧ ∀ z, [Str.ofString "i", Str.ofString "c"].contains z = false → m₁ z = M z
theorem enJ0 (ps rs : List Str) (M : Str → Option Value) : EnJ ps rs M 0 M := ⟨rfl, fun _ _ => rfl⟩
theorem frBack {g h : Heap} {L : Addr} {m₁ M : Str → Option Value} (F : Fr g L h m₁) (hM : ∀ z, [Str.ofString "i", Str.ofString "c"].contains z = false → m₁ z = M z) : Fr g L h (fun y => if [Str.ofString "i", Str.ofString "c"].contains y = true then m₁ y else M y) := by
  have e : m₁ = (fun y => if [Str.ofString "i", Str.ofString "c"].contains y = true then m₁ y else M y) := by
    funext y
    split
    · rfl
    · rename_i hn
      exact hM y (by rw [← Bool.not_eq_true]; exact hn)
  rw [← e]; exact F
def keepS (c : Str) : Bool := decide (c.length ≠ 0 ∧ c ≠ Str.ofString ".")
theorem splitK {prog : Program} {w : World} {A : Around} {E : Value → Shared → Prop} {s : Shared} {h₀ : Heap} {L : Addr} {m : Str → Option Value} {news : List (Addr × Obj)} {Q : Value → Shared → Prop} {x y : Str} {t u : Tok} (F : Fr h₀ L s.heap m) (N : News h₀ L s.heap news) (hy : (y.length == 0) = false) (hz : x.length ≤ 1000)
    (h : ∀ D vs h' k, Fr h₀ L h' m → News h₀ L h' ((D, listOf vs.toArray 0) :: news) → (∀ p ∈ news, p.1 < D) → StrsAre vs (Txt.split x y) → Q (.ref D) { s with heap := h', toks := k }) :
    wpAny (model prog w) A (call (.builtin "str.split") [.str x t, .str y u]) Q E s :=
  splitN1A F N hy (fun l h' k e hS _ _ F' N' => h _ (strValues l) h' k F' N' (fun p hp => Heap.lt_size (N p hp).1) (e ▸ hS)) (by rw [sizeLine_eq]; omega)
theorem endNew {h₀ h' : Heap} {L It C Dc D : Addr} {m : Str → Option Value} {s₁ : Shared} {oI oC oD o : Obj} {S : List (Addr × Obj) → Prop} {rest : Value → List (Addr × Obj) → Prop} {y : Value} {tk : Nat} {news : List (Addr × Obj)}
    (F : Fr h₀ L h' m) (N : News h₀ L h' ((D, o) :: (It, oI) :: (C, oC) :: (Dc, oD) :: news)) (ne : ((@Ne Nat D It) ∧ (@Ne Nat D C) ∧ (@Ne Nat D Dc))) (off : LCg.Off3 It C Dc news) (hS : S ((D, o) :: news)) (r : rest y ((D, o) :: news)) :
    LCg.CompEnd h₀ L m s₁ It oI C oC Dc oD S rest y { s₁ with heap := h', toks := tk } :=
  LCg.CompEnd.intro F N ((D, o) :: news) (fun p hp => by
    simp only [List.mem_cons] at hp ⊢
    rcases hp with h | h | h | h | h
    · exact .inr (.inl h)
    · exact .inr (.inr (.inl h))
    · exact .inr (.inr (.inr (.inl h)))
    · exact .inl h
    · exact .inr (.inr (.inr (.inr h)))) (show LCg.Off3 It C Dc ((D, o) :: news) from ⟨ne, off⟩) hS r
theorem strs2 {acc : List Value} {x y : Str} (h : StrsAre acc [x, y]) : ∃ t1 t2, acc = [.str x t1, .str y t2] := by
  cases h with
  | cons x t h => cases h with
    | cons y u h => cases h; exact ⟨t, u, rfl⟩
theorem truthyS {prog : Program} {w : World} {A : Around} {E : Value → Shared → Prop} {s : Shared} {x : Str} {t : Tok} {b : Bool} {Q : Bool → Shared → Prop} (e : ((x.length : Int) != 0) = b) (hl : x.length ≤ 1000) (h : ∀ k, Q b { s with toks := k }) : wpAny (model prog w) A (truthy (.str x t)) Q E s :=
  PySem.P.truthy_str (by omega) (by rw [e]; exact h _)
theorem c_common {w : World} {mean : ExcName → Option Value} {mg mb : Str → Option Value} {dp un : Nat} {gd : Option (List Code)} {outs : List Env} {base h₀ : Heap} {L : Addr} {m : Str → Option Value} {env : Env} {s : Shared} {E Q : Value → Shared → Prop} {x y : Str} {t u : Tok} {l : Addr} {c : Nat}
    (C : At 9 w mean mg mb dp un gd outs base h₀) (F : Fr h₀ L s.heap m) (hf : env.frame = some L) (hk : env.scope.kind = .function) (N : News h₀ L s.heap [(l, listOf #[.str x t, .str y u] c)]) (hx : x.length ≤ 1000) (hy : y.length ≤ 1000) {xs ys : List Str} (hX : (Txt.split x (Str.ofString "/")).filter keepS = xs) (hY : (Txt.split y (Str.ofString "/")).filter keepS = ys) (hlen : xs.length = ys.length) (h5 : xs.length ≤ 5) (hxl : (Txt.split x (Str.ofString "/")).length ≤ 100) (hyl : (Txt.split y (Str.ofString "/")).length ≤ 100) (hx1 : Txt.startswith x (Str.ofString "/") = true) (hy1 : Txt.startswith y (Str.ofString "/") = true)
    (hret : ∀ t h' tk, Keeps s.heap h' → Q (.str (Str.ofString "/" ++ Txt.join (Str.ofString "/") (comPre xs ys)) t) { s with heap := h', toks := tk }) :
    wpAny (model Challenge.rw_il0057_01.row.prog w) (ar (dp + 1) (un + 3) gd (env :: outs)) (call (.ref 134) [.ref l]) Q E s := by
  k_with_none
  k_with "mine_pre" => (
      (have BQ := At.B (by assumption)); (have XQ := At.X (by assumption)); (have TQ := At.T (by assumption)); (have lQ := At.law (by assumption))
      revert XQ lQ; k_fill; intro XQ lQ; clear lQ
      refine wpAny_call ?_)
  k_with "mine_post" => (
      (case C => assumption); (case ho => k_dflt k_is); (case hcd => k_dflt k_is); (case hb => exact rfl); (case hl => exact locs rfl); (case c2 => exact rfl); (case c3 => exact rfl); (case c4 => exact rfl); (case c5 => decide)
      intro LQ1 h₁Q FQ1 NQ1
      (try dsimp only [List.reverse_cons, List.reverse_nil, List.nil_append, List.cons_append] at FQ1)
      (try dsimp only)
      (try k_fold))
  k_with "mine_postC" => (
      (case C => assumption); (case ho => k_dflt k_is); (case hcd => k_dflt k_is); (case hb => exact rfl); (case hl => exact rfl); (case hnd => decide +kernel); (case c2 => exact rfl); (case c3 => exact rfl); (case c4 => exact rfl)
      intro LQ1 h₁Q tkQ1 cellsQ1 FQ1 NQ1 YQ1
      k_cells YQ1
      (try simp only [List.cons_append, List.nil_append] at NQ1)
      (try dsimp only)
      (try k_fold))
  k_with "mine_preL" => (
      (have BQ := At.B (by assumption)); (have XQ := At.X (by assumption)); (have TQ := At.T (by assumption)); (have lQ := At.law (by assumption))
      revert XQ lQ; k_fill; intro XQ lQ; clear lQ
      refine wpAny_call ?_)
  k_with "mine_postL" => (
      (case C => assumption); (case hN => assumption); (case ho => k_dflt k_is); (case hcd => k_dflt k_is); (case hb => exact rfl); (case hl => exact locs rfl); (case c2 => exact rfl); (case c3 => exact rfl); (case c4 => exact rfl); (case c5 => decide)
      intro LQ1 h₁Q FQ1 NQ1 l1Q1
      k_lt l1Q1
      (try dsimp only [List.reverse_cons, List.reverse_nil, List.nil_append, List.cons_append] at FQ1)
      generalize hid _ _ = gQ at *
      (try dsimp only)
      (try k_fold))
  k_with "mine_postLC" => (
      (case C => assumption); (case hN => assumption); (case ho => k_dflt k_is); (case hcd => k_dflt k_is); (case hb => exact rfl); (case hl => exact rfl); (case hnd => decide +kernel); (case c2 => exact rfl); (case c3 => exact rfl); (case c4 => exact rfl)
      intro LQ1 h₁Q tkQ1 cellsQ1 FQ1 NQ1 YQ1 l1Q1
      k_lt l1Q1
      k_cells YQ1
      (try simp only [List.cons_append, List.nil_append] at NQ1)
      generalize hid _ _ = gQ at *
      (try dsimp only)
      (try k_fold))
  k_with "mine_room" => (refine At.less (At.push (by assumption) (by k_asm) rfl rfl) (by decide))
  k_with "mine_back" => (intro hQ1 tkQ1 hkQ1; (rename Fr _ _ _ _ => F9Q); (rename News _ _ _ _ => N9Q); (have FQ1 := Fr.after F9Q hkQ1); (have NQ1 := newsKeep N9Q hkQ1); clear hkQ1; (try k_sweep); (try dsimp only))
  k_with "call ref" => (k_here; (with_reducible show wpAny _ _ (call (Value.ref 94) [Value.str _ _]) _ _ _); k_dflt (refine' c_fspath ?C ?_; (case C => walk_at "mine_room"); k_whole); intro tQ1; walk_at "mine_back")
  k_with "call ref" => (k_here; (with_reducible show wpAny _ _ (call (Value.ref 108) [Value.str _ _]) _ _ _); k_dflt (refine' c_get_sep ?C ?_; (case C => walk_at "mine_room"); k_whole); intro tQ1; walk_at "mine_back")
  k_with "call builtin:str.split" => (k_here; (with_reducible rename Fr _ _ _ _ => F9Q); (with_reducible rename News _ _ _ _ => N9Q); (with_reducible show wpAny _ _ (call (Value.builtin _) [Value.str _ _, Value.str _ _]) _ _ _); k_dflt (refine splitK F9Q N9Q (by decide) (by assumption) ?_); clear F9Q N9Q; intro DQ1 vsQ1 hQ1 tkQ1 FQ1 NQ1 l1Q hSQ1; k_lt l1Q)
  k_with "call type:map" => (k_here; (with_reducible show wpAny _ _ (call (Value.type _) [Value.ref 94, Value.ref _]) _ _ _); (with_reducible rename Fr _ _ _ _ => F9Q); (with_reducible rename News _ _ _ _ => N9Q); k_dflt (refine' mapNew F9Q N9Q ?m ?_; (case m => k_mem)); intro IQ1 TQ1 MQ1 hQ1 FQ1 NQ1 l1Q l2Q l3Q; k_lt l1Q)
  k_with "call type:tuple" => (k_here; (with_reducible show wpAny _ _ (call (Value.type _) [Value.ref _]) _ _ _); (with_reducible rename Fr _ _ _ _ => F9Q); (with_reducible rename News _ _ _ _ => N9Q); k_dflt (refine' tupleMap ?C F9Q rfl rfl N9Q ?m (StrsAre.cons _ _ (StrsAre.cons _ _ .nil)) ?z ?n ?_; (case C => exact At.less (n := 8) (by assumption) (by decide)); (case m => k_mem); (case z => (show (2 : Nat) ≤ 100; decide)); (case n => k_all)); intro DQ1 accQ1 hQ1 tkQ1 FQ1 NQ1 l1Q hAQ; k_lt l1Q; (obtain ⟨t1Q, t2Q, e9Q⟩ := strs2 hAQ); (subst e9Q); clear hAQ)
  k_with "exec Try" => ((with_reducible show wpAny _ _ (exec (Stmt.Try _ (_ :: _) _ [] _) _) _ _ _); refine wpAny_Try_except ?_)
  k_with "exec Assign cons ListComp" => (k_here; (fail_if_success (with_reducible rename PStop => ps9Q)); k_dflt (refine Assign_ListComp_Tup (F₀ := by k_asm) (by rfl) (by with_unfolding_all rfl) (by rfl) (by decide) (by rfl) (by decide) (by rfl) (by rfl) (by rfl) ?_))
  k_with "CompEnd" => refine Hold.out ?_
  k_with "assign Tuple" => (k_here; (with_reducible show wpAny _ _ (assign (Expr.Tuple _ _ _) _ (Value.ref _)) _ _ _); (with_reducible rename Fr _ _ _ _ => F9Q); (with_reducible rename News _ _ _ _ => N9Q); k_dflt (refine' assignSet1 rfl F9Q N9Q ?m rfl rfl ?_; (case m => exact List.mem_cons_self ..)); clear F9Q N9Q; intro hQ1 tkQ1 FQ1 NQ1)
  k_with "truthy str" => (k_here; (with_reducible show wpAny _ _ (truthy (Value.str _ _)) _ _ _); (refine truthyS (by assumption) (by assumption) ?_); intro tkQ1)
  k_with "call builtin:min" => refine Hold.out ?_
  k_with "call builtin:max" => refine Hold.out ?_
  k_with "exec For Tuple Call cons nil" => refine Hold.out ?_
  k_with "call type:enumerate" => refine Hold.out ?_
  k_with "subscriptTail Name Slice ref ref" => (k_here; (with_reducible show wpAny _ _ (subscriptTail _ (Expr.Slice none (some _) none _) (Value.ref _) (Value.ref _)) _ _ _); (with_reducible rename Fr _ _ _ _ => F9Q); (with_reducible rename News _ _ _ _ => N9Q); (with_unfolding_all refine' sliceTo (s := ⟨_, _, _, _, _⟩) F9Q N9Q ?m ?h0 ?_ ?h1 ?h2 ?h3; (case m => k_mem); (case h0 => omega); (case h1 => with_unfolding_all rfl); (case h2 => (intro _; with_unfolding_all rfl)); (case h3 => omega)); clear F9Q N9Q; intro DQ1 hQ1 FQ1 NQ1 l1Q; (try k_lt l1Q))
  k_with "subscriptTail Name Name ref int" => (k_here; (with_reducible show wpAny _ _ (subscriptTail _ _ (Value.ref _) (Value.int _ _)) _ _ _); (with_unfolding_all refine' itemAt ?k1 ?k2 ?k3 ?k4 ?_ ?k6; (case k1 => exact lstAt (by k_asm) (by k_mem)); (case k4 => assumption); (case k2 => omega); (case k3 => omega); (case k6 => with_unfolding_all rfl); k_whole))
  k_with "call builtin:str.join" => (k_here; (with_reducible show wpAny _ _ (call (Value.builtin _) [Value.str _ _, Value.ref _]) _ _ _); (with_reducible rename News _ _ _ _ => N9Q); k_dflt (refine' joinK N9Q ?m ?S ?lQ ?z ?_; (case m => k_mem); (case S => assumption); (case lQ => assumption); (case z => assumption)); intro tQ1 kQ1 jlQ1)
  k_with "TupSrc" => refine Hold.out ?_
  k_with "SetSrc" => refine Hold.out ?_
  k_with "CompSrcT" => refine Hold.out ?_
  k_with "SetEnd" => refine Hold.out ?_
  k_with "eval SetComp" => (k_here; k_dflt (refine SetComp_T (F₀ := by k_asm) (by rfl) (by decide) (by rfl) (by decide) (by rfl) ?_))
  have C' := At.pushL C F N hf hk
  have hN : ∀ p ∈ [(l, listOf #[.str x t, .str y u] c)], s.heap.get? p.1 = some p.2 := fun p hp => (N p hp).1
  have hK := fun h' => @hid_keeps s.heap h' _ hN
  have hNo := fun b => @hid_none s.heap [(l, listOf #[.str x t, .str y u] c)] b
  clear C F N hf hk
  walk_at "mine_preL"
  refine' enterLC (binds := [(Str.ofString "paths", .ref l)]) ?C ?hN ?ho ?hcd ?hb ?hl ?hnd ?_ ?c2 ?c3 ?c4
  (case C => assumption); (case hN => assumption); (case ho => k_dflt k_is); (case hcd => k_dflt k_is); (case hb => exact rfl); (case hl => exact rfl); (case hnd => decide +kernel); (case c2 => exact rfl); (case c3 => exact rfl); (case c4 => exact rfl)
  intro L' h₁ tk' cells' F' N' Y' l1'
  k_lt l1'
  k_cells Y'
  (try simp only [List.cons_append, List.nil_append] at N')
  generalize hid _ _ = g at *
  (try dsimp only)
  (try k_fold)
  k_steps
  refine Hold.into ?_
  (rename Fr _ _ _ _ => F9); (rename News _ _ _ _ => N9)
  refine ⟨_, _, _, rfl, rfl, F9, N9, List.mem_cons_self .., (by rw [sizeLine_eq]; show (2 : Nat) ≤ _; omega), ?_⟩
  rintro s₂ ⟨g9, rfl⟩
  refine LCg.CompRest.succ (k := 1) ?_
  intro v It oI C oC Dc m₂ h tk E' hv hC hx' Fc Nc off nec
  have off0 := off
  (try simp only [LCg.Off3, and_true] at off)
  obtain ⟨t9, rfl⟩ : ∃ t9, v = .str x t9 := ⟨_, (Option.some.inj hv).symm⟩
  clear F9 N9
  k_steps
  refine Hold.into ?_
  (rename Fr _ _ _ _ => F9); (rename News _ _ _ _ => N9); (rename StrsAre _ _ => hS1)
  refine endNew F9 N9 (by refine ⟨?_, ?_, ?_⟩ <;> omega) off0 (List.mem_cons_of_mem _ (List.mem_cons_self ..)) ?_
  clear F9 N9
  (try clear Fc)
  (try clear Nc)
  (try clear hC hx')
  (try clear hv)
  (try clear nec off0 off)
  simp only [List.nil_append]
  refine LCg.CompRest.succ (k := 0) ?_
  intro v It oI C oC Dc m₂ h tk E' hv hC hx' Fc Nc off nec
  have off0 := off
  (try simp only [LCg.Off3, and_true] at off)
  obtain ⟨t9, rfl⟩ : ∃ t9, v = .str y t9 := ⟨_, (Option.some.inj hv).symm⟩
  k_steps
  refine Hold.into ?_
  (rename Fr _ _ _ _ => F9); (rename News _ _ _ _ => N9); (rename StrsAre _ (Txt.split y _) => hS2)
  refine endNew F9 N9 (by refine ⟨?_, ?_, ?_⟩ <;> omega) off0 (List.mem_cons_of_mem _ (List.mem_cons_of_mem _ (List.mem_cons_self ..))) ?_
  clear F9 N9
  (try clear Fc)
  (try clear Nc)
  (try clear hC hx')
  (try clear hv)
  (try clear nec off0 off)
  refine LCg.CompRest.zero ?_
  simp only [List.cons_append, List.nil_append]
  k_steps
  refine Hold.into ?_
  (rename Fr _ _ _ _ => F9); (rename News _ _ _ _ => N9)
  refine ⟨_, _, _, rfl, rfl, F9, N9, List.mem_cons_of_mem _ (List.mem_cons_of_mem _ (List.mem_cons_of_mem _ (List.mem_cons_self ..))), (by rw [sizeLine_eq]; show (2 : Nat) ≤ _; omega), (by show (0 : Nat) < 2; decide), ?_⟩
  rintro s₂ ⟨g9, rfl⟩
  clear F9 N9
  refine ⟨?turn2, ?fin2⟩
  case turn2 =>
    intro i v It oI C oC Dc m₂ h tk E' hv hC hx' Fc Nc off nec
    obtain ⟨z, tz, rfl, hz⟩ : ∃ z tz, v = .str z tz ∧ Txt.startswith z (Str.ofString "/") = true := by
      match i, hv with
      | 0, hv => exact ⟨x, _, (Option.some.inj hv).symm, hx1⟩
      | 1, hv => exact ⟨y, _, (Option.some.inj hv).symm, hy1⟩
      | i + 2, hv => simp at hv
    (try simp only [LCg.Off3, and_true] at off)
    generalize setN (ledOf w) i = oD at *
    k_steps
    refine Hold.into ?_
    (rename Fr _ _ _ _ => F9); (rename News _ _ _ _ => N9)
    exact ⟨by rw [hz], _, _, rfl, F9, N9⟩
  case fin2 =>
    intro D' h tk F9 N9 o1
    (try simp only [LCg.Off1, and_true] at o1)
    have ps : PStop := .mk
    have hvl1 := hS1.length
    have hvl2 := hS2.length
    k_steps
    refine Hold.into ?_
    (rename Fr _ _ _ _ => F9); (rename News _ _ _ _ => N9)
    refine LCt.CompSrcT.ledger rfl F9 N9 (by k_mem) (by rw [List.size_toArray, sizeLine_eq]; omega) fun gg => ?_
    clear F9 N9
    refine crT (fun i zs => StrsAre zs (((Txt.split x (Str.ofString "/")).take i).filter keepS)) (by simpa using StrsAre.nil) ?turn3 ?fin3
    case turn3 =>
      intro j v It oI C oC Dc m₂ zs h tk E' hj hv hz hC hx' Fc Nc off nec
      have off0 := off
      (try simp only [LCg.Off3, and_true] at off)
      have hjl : j < (Txt.split x (Str.ofString "/")).length := by rw [← hvl1]; simpa using hj
      obtain ⟨c, hcj, tc, rfl⟩ : ∃ c, (Txt.split x (Str.ofString "/"))[j]? = some c ∧ ∃ tc, v = .str c tc := by
        obtain ⟨tc, e⟩ := hS1.get j _ (List.getElem?_eq_getElem hjl)
        have hv' := hv
        rw [List.getElem?_toArray, e] at hv'
        exact ⟨_, List.getElem?_eq_getElem hjl, tc, (Option.some.inj hv').symm⟩
      have hcl : c.length ≤ 1000 := Nat.le_trans (part_short (List.mem_of_getElem? hcj)) hx
      have hjt : (Txt.split x (Str.ofString "/")).take (j + 1) = (Txt.split x (Str.ofString "/")).take j ++ [c] := by rw [List.take_add_one, hcj]; rfl
      by_cases hc0 : c.length = 0
      · have e0 : ((c.length : Int) != 0) = false := by rw [hc0]; rfl
        k_steps
        refine Hold.into ?_
        (rename Fr _ _ _ _ => F9); (rename News _ _ _ _ => N9)
        refine LCg.CompEnd.intro F9 N9 _ (fun p hp => hp) off0 (.inr ⟨_, by k_mem, rfl, _, rfl⟩) ⟨rfl, ?_⟩
        rw [hjt, List.filter_append, List.filter_cons_of_neg (by simp [keepS, hc0])]
        simpa using hz
      · have e0 : ((c.length : Int) != 0) = true := by simp; omega
        k_steps
        · (rename (c != Str.ofString ".") = true => hcd)
          refine Hold.into ?_
          (rename Fr _ _ _ _ => F9); (rename News _ _ _ _ => N9)
          refine LCg.CompEnd.intro F9 N9 _ (fun p hp => hp) off0 (.inr ⟨_, by k_mem, rfl, _, rfl⟩) ⟨rfl, ?_⟩
          rw [hjt, List.filter_append, List.filter_cons_of_pos (by simpa [keepS, hc0] using hcd)]
          exact hz.append' (.cons _ _ .nil)
        · (rename (c != Str.ofString ".") = false => hcd)
          refine Hold.into ?_
          (rename Fr _ _ _ _ => F9); (rename News _ _ _ _ => N9)
          refine LCg.CompEnd.intro F9 N9 _ (fun p hp => hp) off0 (.inr ⟨_, by k_mem, rfl, _, rfl⟩) ⟨rfl, ?_⟩
          rw [hjt, List.filter_append, List.filter_cons_of_neg (by simpa [keepS, hc0] using hcd)]
          simpa using hz
    case fin3 =>
      intro zs3 hz3
      rw [List.size_toArray, hvl1, List.take_length] at hz3
      k_steps
      refine Hold.into ?_
      (rename Fr _ _ _ _ => F9); (rename News _ _ _ _ => N9)
      refine endNew F9 N9 (by refine ⟨?_, ?_, ?_⟩ <;> omega) (by simp only [LCg.Off3, and_true]; assumption) (.inr ⟨_, by k_mem, rfl, _, rfl⟩) ?_
      clear F9 N9
      simp only [List.nil_append, List.cons_append]
      k_steps
      refine Hold.into ?_
      (rename Fr _ _ _ _ => F9); (rename News _ _ _ _ => N9)
      refine LCt.CompSrcT.ledger rfl F9 N9 (by k_mem) (by rw [List.size_toArray, sizeLine_eq]; omega) fun gg => ?_
      clear F9 N9
      refine crT (fun i zs => StrsAre zs (((Txt.split y (Str.ofString "/")).take i).filter keepS)) (by simpa using StrsAre.nil) ?turn4 ?fin4
      case turn4 =>
        intro j v It oI C oC Dc m₂ zs h tk E' hj hv hz hC hx' Fc Nc off nec
        have off0 := off
        (try simp only [LCg.Off3, and_true] at off)
        have hjl : j < (Txt.split y (Str.ofString "/")).length := by rw [← hvl2]; simpa using hj
        obtain ⟨c, hcj, tc, rfl⟩ : ∃ c, (Txt.split y (Str.ofString "/"))[j]? = some c ∧ ∃ tc, v = .str c tc := by
          obtain ⟨tc, e⟩ := hS2.get j _ (List.getElem?_eq_getElem hjl)
          have hv' := hv
          rw [List.getElem?_toArray, e] at hv'
          exact ⟨_, List.getElem?_eq_getElem hjl, tc, (Option.some.inj hv').symm⟩
        have hcl : c.length ≤ 1000 := Nat.le_trans (part_short (List.mem_of_getElem? hcj)) hy
        have hjt : (Txt.split y (Str.ofString "/")).take (j + 1) = (Txt.split y (Str.ofString "/")).take j ++ [c] := by rw [List.take_add_one, hcj]; rfl
        by_cases hc0 : c.length = 0
        · have e0 : ((c.length : Int) != 0) = false := by rw [hc0]; rfl
          k_steps
          refine Hold.into ?_
          (rename Fr _ _ _ _ => F9); (rename News _ _ _ _ => N9)
          refine LCg.CompEnd.intro F9 N9 _ (fun p hp => hp) off0 (.inr ⟨_, by k_mem, rfl, _, rfl⟩) ⟨rfl, ?_⟩
          rw [hjt, List.filter_append, List.filter_cons_of_neg (by simp [keepS, hc0])]
          simpa using hz
        · have e0 : ((c.length : Int) != 0) = true := by simp; omega
          k_steps
          · (rename (c != Str.ofString ".") = true => hcd)
            refine Hold.into ?_
            (rename Fr _ _ _ _ => F9); (rename News _ _ _ _ => N9)
            refine LCg.CompEnd.intro F9 N9 _ (fun p hp => hp) off0 (.inr ⟨_, by k_mem, rfl, _, rfl⟩) ⟨rfl, ?_⟩
            rw [hjt, List.filter_append, List.filter_cons_of_pos (by simpa [keepS, hc0] using hcd)]
            exact hz.append' (.cons _ _ .nil)
          · (rename (c != Str.ofString ".") = false => hcd)
            refine Hold.into ?_
            (rename Fr _ _ _ _ => F9); (rename News _ _ _ _ => N9)
            refine LCg.CompEnd.intro F9 N9 _ (fun p hp => hp) off0 (.inr ⟨_, by k_mem, rfl, _, rfl⟩) ⟨rfl, ?_⟩
            rw [hjt, List.filter_append, List.filter_cons_of_neg (by simpa [keepS, hc0] using hcd)]
            simpa using hz
      case fin4 =>
        intro zs4 hz4
        rw [List.size_toArray, hvl2, List.take_length] at hz4
        k_steps
        refine Hold.into ?_
        (rename Fr _ _ _ _ => F9); (rename News _ _ _ _ => N9)
        refine endNew F9 N9 (by refine ⟨?_, ?_, ?_⟩ <;> omega) (by simp only [LCg.Off3, and_true]; assumption) (.inr ⟨_, by k_mem, rfl, _, rfl⟩) ?_
        clear F9 N9
        simp only [List.nil_append, List.cons_append]
        k_steps
        refine Hold.into ?_
        (rename Fr _ _ _ _ => F9); (rename News _ _ _ _ => N9)
        rw [hX] at hz3
        rw [hY] at hz4
        have hun := At.u C'
        refine minTwo' rfl (by show un + 3 + 3 + 2 < _; omega) F9 N9 (by k_mem) (by k_mem) (by k_mem) hz3 hz4 hlen ?_
        clear F9 N9
        intro P zP nP ps h' tk F' N' hP hPe
        k_steps
        refine Hold.into ?_
        (rename Fr _ _ _ _ => F9); (rename News _ _ _ _ => N9)
        refine maxTwo' rfl (by show un + 3 + 3 + 2 < _; omega) F9 N9 (by k_mem) (by k_mem) (by k_mem) hz3 hz4 hlen ?_
        clear F9 N9
        intro R zR nR rs h' tk F' N' hR hRe
        k_steps
        refine Hold.into ?_
        refine wpAny_For ?_
        k_steps
        refine Hold.into ?_
        (rename Fr _ _ _ _ => F9); (rename News _ _ _ _ => N9)
        have hzP := hP.length
        have hzR := hR.length
        have hprl : ps.length = rs.length := by rw [← hPe, ← hRe]; (repeat' split) <;> omega
        have hp5 : ps.length ≤ 5 := by rw [← hPe]; split <;> omega
        have hps : ∀ z ∈ ps, z.length ≤ 1000 := by
          intro z hz
          rw [← hPe] at hz
          split at hz
          · rw [← hY] at hz
            exact Nat.le_trans (part_short (List.mem_filter.mp hz).1) hy
          · rw [← hX] at hz
            exact Nat.le_trans (part_short (List.mem_filter.mp hz).1) hx
        refine forEnum (EnJ ps rs _) rfl (show (P, listOf zP.toArray nP) ∈ _ by k_mem) (by rfl) (by rfl) (by rfl) F9 N9 (enJ0 _ _ _) ?turn5 ?done5 (by passes_own)
        case turn5 =>
          intro i v tq m₁ h tk e it oe oi hv hlt0 hlt1 hJ F1 N1
          obtain ⟨hJ1, hJ2⟩ := hJ
          have hil : i < ps.length := by rw [← hzP]; exact (List.getElem?_eq_some_iff.mp hv).1
          obtain ⟨c0, hc0⟩ : ∃ c0, ps[i]? = some c0 := ⟨_, List.getElem?_eq_getElem hil⟩
          obtain ⟨d0, hd0⟩ : ∃ d0, rs[i]? = some d0 := ⟨_, List.getElem?_eq_getElem (by omega)⟩
          obtain ⟨tc, htc⟩ := hP.get i c0 hc0
          obtain ⟨td, htd⟩ := hR.get i d0 hd0
          rw [hv] at htc
          obtain rfl := Option.some.inj htc
          have htd' : zR[((i : Nat) : Int).toNat]? = some (.str d0 td) := htd
          have htp : ps.take (i + 1) = ps.take i ++ [c0] := by rw [List.take_add_one, hc0]; rfl
          have htr : rs.take (i + 1) = rs.take i ++ [d0] := by rw [List.take_add_one, hd0]; rfl
          have F2 := frMap F1 hJ2
          clear F1 F9 N9
          replace F2 : Fr g L' _ _ := F2
          replace N1 : News g L' _ _ := N1
          k_lt hlt0
          have hst := strsTake hP ((i : Nat) : Int).toNat
          have hst5 : (ps.take ((i : Nat) : Int).toNat).length ≤ 5 := by rw [List.length_take]; omega
          have hstz : ∀ z ∈ ps.take ((i : Nat) : Int).toNat, z.length ≤ 1000 := fun z hz => hps z (List.mem_of_mem_take hz)
          k_steps
          · (rename (c0 != d0) = true => hne)
            unfold EnumStep
            dsimp only
            k_steps
            (rename Fr _ _ _ _ => F9); (rename News _ _ _ _ => N9)
            have e := comPre_at hJ1 hc0 hd0 (by simpa using hne)
            rw [comPre_of hlen hPe hRe] at e
            have hret2 := hret
            rw [e] at hret2
            exact hret2 _ _ _ (hK _ F9.keep (fun p hp => by rw [List.mem_singleton.mp hp]; exact (N9 (l, listOf #[.str x t, .str y u] c) (by k_mem)).1))
          · (rename (c0 != d0) = false => hne)
            (rename Fr _ _ _ _ => F9); (rename News _ _ _ _ => N9)
            refine ⟨_, _, _, rfl, F9, N9, ?_, ?_⟩
            · rw [htp, htr, hJ1, show c0 = d0 by simpa using hne]
            · intro z hz
              simp at hz
              show (if z = Str.ofString "c" then _ else if z = Str.ofString "i" then _ else _) = _
              rw [if_neg hz.2, if_neg hz.1]
        case done5 =>
          intro m₁ h tk hJ F1 N1
          obtain ⟨hJ1, hJ2⟩ := hJ
          have F2 := frBack F1 hJ2
          clear F1 F9 N9
          replace F2 : Fr g L' _ _ := F2
          replace N1 : News g L' _ _ := N1
          have hp5' := hp5
          k_steps
          (rename Fr _ _ _ _ => F9); (rename News _ _ _ _ => N9)
          have e9 : ps = rs := by
            rw [List.take_of_length_le (by omega), List.take_of_length_le (by omega)] at hJ1
            exact hJ1
          have e := comPre_of hlen hPe hRe
          rw [← e9, comPre_self] at e
          have hret2 := hret
          rw [← e] at hret2
          exact hret2 _ _ _ (hK _ F9.keep (fun p hp => by rw [List.mem_singleton.mp hp]; exact (N9 (l, listOf #[.str x t, .str y u] c) (by k_mem)).1))
end Mine
end
section
open PySem PySem.W PyProof.Rows PySem.Calls
set_option Elab.async false
set_option maxRecDepth 100000
set_option maxHeartbeats 4000000
namespace Mine
open Builtin
def ascA : List UInt8 → List Nat := List.map UInt8.toNat
theorem asc_find {b : Array UInt8} (hb : ∀ p, (b.getD p 0).toNat < 128) (p : Nat) : _codecs.asciiDecoder.find true b p = .text [(b.getD p 0).toNat] (p + 1) := by
  show (if (b.getD p 0).toNat < 128 then _ else _) = _
  rw [if_pos (hb p)]; rfl
theorem run1 {x : UInt8} (h : ∀ p, ((#[x] : Array UInt8).getD p 0).toNat < 128) (id : String) : _codecs.runDecoder id _codecs.asciiDecoder none true #[x] 0 [] = pure (#[x.toNat], 1) := by
  unfold _codecs.runDecoder
  simp only [asc_find h]
  kernel_rfl
theorem run2 {x y : UInt8} (h : ∀ p, ((#[x, y] : Array UInt8).getD p 0).toNat < 128) (id : String) : _codecs.runDecoder id _codecs.asciiDecoder none true #[x, y] 0 [] = pure (#[x.toNat, y.toNat], 2) := by
  unfold _codecs.runDecoder
  simp only [asc_find h]
  kernel_rfl
theorem run3 {x y z : UInt8} (h : ∀ p, ((#[x, y, z] : Array UInt8).getD p 0).toNat < 128) (id : String) : _codecs.runDecoder id _codecs.asciiDecoder none true #[x, y, z] 0 [] = pure (#[x.toNat, y.toNat, z.toNat], 3) := by
  unfold _codecs.runDecoder
  simp only [asc_find h]
  kernel_rfl
theorem asc_road {id : String} {b : Array UInt8} : _codecs.decodeRoad id b (PySem.Str.ofString "ascii") none [] = (_codecs.runDecoder id _codecs.asciiDecoder none true b 0 [] >>= fun r => mkStr ⟨r.1⟩) := by kernel_rfl
theorem asc_text {b : Array UInt8} {x : PySem.Str} {n : Nat} {t t1 t2 : Tok} {d : PySem.Str} (hd : ∀ id, _codecs.runDecoder id _codecs.asciiDecoder none true b 0 [] = pure (x.cps, n)) :
    Meets («_codecs.decode.text» ⟨[.bytes b t, .str (PySem.Str.ofString "ascii") t1, .none, .str d t2], []⟩) (fun _ R s => x.length ≤ sizeLine ∧ R (.ok (.ret (.str x s.toks))) { s with toks := s.toks + 1 }) := by
  refine .of_wp fun prog w A R s hS => ?_
  obtain ⟨hsz, h⟩ := hS
  show wpAny _ _ (Bytes.bytesLike _ (.bytes b t) >>= fun r => _) _ _ s
  refine wpAny_bind (wpAny_of_eq KBd.like_eq ?_)
  refine wpAny_bind (wpAny_of_eq KBd.held_eq ?_)
  show wpAny _ _ (_codecs.decodeRoad _ b (PySem.Str.ofString "ascii") none [] >>= fun v => _) _ _ s
  rw [asc_road, hd]
  refine wpAny_bind (wpAny_bind (wpAny_pure ?_))
  exact wpAny_mkStr (wpAny_pure ⟨_, rfl, h⟩) hsz
theorem asc_entry {c : UInt8} {cs : List UInt8} {t t1 : Tok} : «bytes.decode» ⟨[.bytes (c :: cs).toArray t, .str (PySem.Str.ofString "ascii") t1], []⟩ = (mkStr (PySem.Str.ofString "utf-8") >>= fun _ => mkStr (PySem.Str.ofString "ascii") >>= fun e => mkStr (PySem.Str.ofString "bytes.decode") >>= fun d =>
    call (.builtin "_codecs.decode.text") [.bytes (c :: cs).toArray t, e, .none, d] >>= fun v => ret v) := by kernel_rfl
theorem asc_args (a b : Value) : argsOk "bytes.decode" ⟨[a, b], []⟩ := by
  unfold argsOk; rw [signature?_of (id := "bytes.decode") (n := ['e', 'd', 'o', 'c', 'e', 'd']) (o := ['s', 'e', 't', 'y', 'b']) (by kernel_rfl) FB.owner_bytes]; kernel_rfl
theorem asc_meets {c : UInt8} {cs : List UInt8} {t t1 : Tok} {x : PySem.Str} {n : Nat} (hd : ∀ id, _codecs.runDecoder id _codecs.asciiDecoder none true (c :: cs).toArray 0 [] = pure (x.cps, n)) :
    Meets («bytes.decode» ⟨[.bytes (c :: cs).toArray t, .str (PySem.Str.ofString "ascii") t1], []⟩) (fun _ R s => x.length ≤ sizeLine ∧ ∀ t' k, R (.ok (.ret (.str x t'))) { s with toks := k }) := by
  refine .of_wp fun prog w A R s hS => ?_
  obtain ⟨hsz, h⟩ := hS
  rw [asc_entry]
  refine wpAny_bind (wpAny_mkStr ?_ (by decide))
  refine wpAny_bind (wpAny_mkStr ?_ (by decide))
  refine wpAny_bind (wpAny_mkStr ?_ (by decide))
  exact wpAny_bind (call_function_meets KBd.kind_text KBd.plain_text KBd.entry_text (KBd.args_text _ _ _ _) (asc_text hd) ⟨hsz, wpAny_pure ⟨_, rfl, h _ _⟩⟩)
theorem asc_call {prog : Program} {w : World} {A : Around} {E : Value → Shared → Prop} {s : Shared} {c : UInt8} {cs : List UInt8} {t t1 : Tok} {x : PySem.Str} {n : Nat} {Q : Value → Shared → Prop} (hd : ∀ id, _codecs.runDecoder id _codecs.asciiDecoder none true (c :: cs).toArray 0 [] = pure (x.cps, n)) (hsz : x.length ≤ 16777216) (h : ∀ t' k, Q (.str x t') { s with toks := k }) :
    wpAny (model prog w) A (call (.builtin "bytes.decode") [.bytes (c :: cs).toArray t, .str (PySem.Str.ofString "ascii") t1]) Q E s :=
  call_meets FB.slot_bytes_decode (typeIs_bytes _ _ _) FB.entry_bytes_decode (asc_args _ _) (asc_meets hd) ⟨by rw [sizeLine_eq]; exact hsz, h⟩
def dgN (k : Int) : Nat := 65 + k.toNat
def apL (n : Int) : List Nat := if n < 16 then [dgN n] else if n < 256 then [dgN (n / 16), dgN (n % 16)] else [dgN (n / 256), dgN (n / 16 % 16), dgN (n % 16)]
def apS (n : Int) : Str := ⟨(apL n).toArray⟩
theorem dg_nat (k : Int) (h : k < 16) : (dg k).toNat = dgN k := by
  unfold dg dgN
  rw [UInt8.toNat_ofNat']
  have : k.toNat < 16 := by omega
  omega
theorem dg_lt (k : Int) (h : k < 16) : (dg k).toNat < 128 := by
  rw [dg_nat k h]; unfold dgN; omega
theorem getD1 {x : UInt8} (hx : x.toNat < 128) : ∀ p, ((#[x] : Array UInt8).getD p 0).toNat < 128 := by
  intro p
  rcases p with _ | p
  · exact hx
  · rw [Array.getD, dif_neg (by simp)]; decide
theorem getD2 {x y : UInt8} (hx : x.toNat < 128) (hy : y.toNat < 128) : ∀ p, ((#[x, y] : Array UInt8).getD p 0).toNat < 128 := by
  intro p
  rcases p with _ | _ | p
  · exact hx
  · exact hy
  · rw [Array.getD, dif_neg (by simp)]; decide
theorem getD3 {x y z : UInt8} (hx : x.toNat < 128) (hy : y.toNat < 128) (hz : z.toNat < 128) : ∀ p, ((#[x, y, z] : Array UInt8).getD p 0).toNat < 128 := by
  intro p
  rcases p with _ | _ | _ | p
  · exact hx
  · exact hy
  · exact hz
  · rw [Array.getD, dif_neg (by simp)]; decide
theorem asc_ap {prog : Program} {w : World} {A : Around} {E : Value → Shared → Prop} {s : Shared} {a : Int} {t t1 : Tok} {Q : Value → Shared → Prop} (h0 : 1 ≤ a) (h5 : a < 4096) (h : ∀ t' k, Q (.str (apS a) t') { s with toks := k }) :
    wpAny (model prog w) A (call (.builtin "bytes.decode") [.bytes (apB a) t, .str (PySem.Str.ofString "ascii") t1]) Q E s := by
  unfold apS apL at h
  unfold apB
  rw [if_neg (by omega)]
  by_cases h1 : a < 16
  · rw [if_pos h1] at h ⊢
    refine asc_call (x := ⟨#[(dg a).toNat]⟩) (run1 (getD1 (dg_lt _ (by omega)))) (by show (1 : Nat) ≤ _; decide) ?_
    rw [dg_nat _ (by omega)]; exact h
  · rw [if_neg h1] at h ⊢
    by_cases h2 : a < 256
    · rw [if_pos h2] at h ⊢
      refine asc_call (x := ⟨#[(dg (a / 16)).toNat, (dg (a % 16)).toNat]⟩) (run2 (getD2 (dg_lt _ (by omega)) (dg_lt _ (by omega)))) (by show (2 : Nat) ≤ _; decide) ?_
      rw [dg_nat _ (by omega), dg_nat _ (by omega)]; exact h
    · rw [if_neg h2] at h ⊢
      refine asc_call (x := ⟨#[(dg (a / 256)).toNat, (dg (a / 16 % 16)).toNat, (dg (a % 16)).toNat]⟩) (run3 (getD3 (dg_lt _ (by omega)) (dg_lt _ (by omega)) (dg_lt _ (by omega)))) (by show (3 : Nat) ≤ _; decide) ?_
      rw [dg_nat _ (by omega), dg_nat _ (by omega), dg_nat _ (by omega)]; exact h
end Mine
end
section
open PySem PySem.W PyProof.Rows PySem.Calls
set_option Elab.async false
set_option maxRecDepth 100000
set_option maxHeartbeats 4000000
namespace Mine
def valI (wh : Int) (k : Nat) : Int := 14 + wh.fmod 200 + (k : Int) * (1 + (wh.fdiv 200).fmod 60)
def vals (wh : Int) (z : Nat) : List Int := (List.range z).map (valI wh)
theorem z5 {z : Nat} (h : z = 3 ∨ z = 4 ∨ z = 5) : z ≤ 5 := by omega
theorem z5s {z : Nat} (h : z ≤ 5) : z ≤ sizeLine := by rw [sizeLine_eq]; omega
theorem size_of (n : Nat) : ∃ z : Nat, 3 + (n : Int).fmod 3 = (z : Int) ∧ (z = 3 ∨ z = 4 ∨ z = 5) := by
  have e : (n : Int).fmod 3 = ((n % 3 : Nat) : Int) := by rw [Int.fmod_eq_emod_of_nonneg _ (by decide)]; rfl
  exact ⟨3 + n % 3, by rw [e]; omega, by omega⟩
theorem valI_bd {wh : Int} {z k : Nat} (hz : z ≤ 5) (hk : k < z) : 14 ≤ valI wh k ∧ valI wh k < 454 := by
  unfold valI
  rw [Int.fmod_eq_emod_of_nonneg _ (by decide), Int.fmod_eq_emod_of_nonneg _ (by decide)]
  generalize wh.fdiv 200 = q
  obtain rfl | rfl | rfl | rfl | rfl : k = 0 ∨ k = 1 ∨ k = 2 ∨ k = 3 ∨ k = 4 := by omega
  all_goals omega
theorem valI_inj {wh : Int} {a b : Nat} (ha : a < 5) (hb : b < 5) (h : valI wh a = valI wh b) : a = b := by
  unfold valI at h
  rw [Int.fmod_eq_emod_of_nonneg _ (by decide), Int.fmod_eq_emod_of_nonneg _ (by decide)] at h
  generalize wh.fdiv 200 = q at h
  obtain rfl | rfl | rfl | rfl | rfl : a = 0 ∨ a = 1 ∨ a = 2 ∨ a = 3 ∨ a = 4 := by omega
  all_goals (obtain rfl | rfl | rfl | rfl | rfl : b = 0 ∨ b = 1 ∨ b = 2 ∨ b = 3 ∨ b = 4 := by omega)
  all_goals omega
theorem kz_inj {a b : Int} (h : kz a = kz b) : a = b := by
  unfold kz dk fg at h
  split at h <;> split at h <;> (try split at h) <;> (try split at h) <;> omega
theorem vals_bd {wh : Int} {z : Nat} (hz : z ≤ 5) : ∀ x ∈ vals wh z, 14 ≤ x ∧ x < 454 := by
  intro x hx
  obtain ⟨k, hk, rfl⟩ := List.mem_map.mp hx
  exact valI_bd hz (List.mem_range.mp hk)
theorem nodup_map {α β : Type} {f : α → β} : ∀ {l : List α}, l.Nodup → (∀ a ∈ l, ∀ b ∈ l, f a = f b → a = b) → (l.map f).Nodup
  | [], _, _ => List.nodup_nil
  | x :: l, h, hi => by
    rw [List.map_cons, List.nodup_cons]
    rw [List.nodup_cons] at h
    refine ⟨fun hm => ?_, nodup_map h.2 (fun a ha b hb e => hi a (.tail _ ha) b (.tail _ hb) e)⟩
    obtain ⟨y, hy, e⟩ := List.mem_map.mp hm
    exact h.1 (hi y (.tail _ hy) x (.head _) e ▸ hy)
theorem vals_nodup {wh : Int} {z : Nat} (hz : z ≤ 5) : ((vals wh z).map kz).Nodup := by
  refine nodup_map (nodup_map List.nodup_range fun a ha b hb e => ?_) fun a _ b _ e => kz_inj e
  have := List.mem_range.mp ha
  have := List.mem_range.mp hb
  exact valI_inj (by omega) (by omega) e
theorem vals_succ {wh : Int} {j : Nat} : vals wh (j + 1) = vals wh j ++ [valI wh j] := by unfold vals; rw [List.range_succ, List.map_append]; rfl
theorem vals_len {wh : Int} {z : Nat} : (vals wh z).length = z := by simp [vals]
theorem vals_snoc {wh n : Int} {j : Nat} {t : Tok} {zs : List Value} (h : IntsAre zs (vals wh j)) (e : n = 14 + wh.fmod 200 + (j : Int) * (1 + (wh.fdiv 200).fmod 60)) : IntsAre (zs ++ [.int n t]) (vals wh (j + 1)) := by
  rw [vals_succ, e]
  exact h.append (.cons (valI wh j) _ .nil)
theorem ints_get : ∀ {vs : List Value} {ns : List Int} {i : Nat} {v : Value}, IntsAre vs ns → vs[i]? = some v → ∃ n t, ns[i]? = some n ∧ v = .int n t
  | _, _, _, _, .nil, h => by simp at h
  | _, _, 0, _, .cons n t _, h => ⟨n, t, rfl, (Option.some.inj h).symm⟩
  | _, _, i + 1, _, .cons _ _ r, h => ints_get (i := i) r h
theorem signed {v : Int} (h : 1 ≤ v) : (if (1 - v.fmod 2 * 2) * v < 0 then -((1 - v.fmod 2 * 2) * v) else (1 - v.fmod 2 * 2) * v) = v := by
  rw [Int.fmod_eq_emod_of_nonneg _ (by decide)]
  rcases (by omega : v % 2 = 0 ∨ v % 2 = 1) with e | e
  · rw [e, show (1 - 0 * 2 : Int) * v = v by omega, if_neg (by omega)]
  · rw [e, show (1 - 1 * 2 : Int) * v = -v by omega, if_pos (by omega)]; omega
theorem names_snoc {n : Int} {j : Nat} {t : Tok} {zs : List Value} {ns : List Int} (h : StrsAre zs ((ns.take j).map apS)) (e : ns[j]? = some n) : StrsAre (zs ++ [.str (apS n) t]) ((ns.take (j + 1)).map apS) := by
  rw [List.take_add_one, e, List.map_append]
  exact h.append' (.cons (apS n) t .nil)
/-- so many numbers of orders -/
def OrdsAre (z i : Nat) (vs : List Value) : Prop := ∃ os : List Int, IntsAre vs os ∧ os.length = i ∧ ∀ o ∈ os, 0 ≤ o ∧ o < (fac z : Int)
theorem OrdsAre.nil {z : Nat} : OrdsAre z 0 [] := ⟨[], .nil, rfl, fun _ h => absurd h (by simp)⟩
theorem OrdsAre.snoc {z i : Nat} {vs : List Value} {n : Int} {t : Tok} (h : OrdsAre z i vs) : OrdsAre z (i + 1) (vs ++ [.int (n.fmod (facZ z)) t]) := by
  obtain ⟨os, h1, h2, h3⟩ := h
  refine ⟨os ++ [n.fmod (facZ z)], h1.append (.cons _ _ .nil), by simp [h2], fun o ho => ?_⟩
  rcases List.mem_append.mp ho with ho | ho
  · exact h3 o ho
  · rw [List.mem_singleton.mp ho]
    have h0 := facZ_pos z
    have e : facZ z = (fac z : Int) := by unfold facZ; rw [Int.toNat_natCast]
    rw [Int.fmod_eq_emod_of_nonneg _ (by omega), ← e]
    exact ⟨Int.emod_nonneg _ (by omega), Int.emod_lt_of_pos _ h0⟩
theorem rowN_len : ∀ (k n : Nat) (xs : List Str), (rowN k n xs).length = k
  | 0, _, _ => rfl
  | k + 1, n, xs => by rw [rowN, List.length_cons, rowN_len]
theorem rowN_mem : ∀ (k n : Nat) (xs : List Str), ∀ y ∈ rowN k n xs, y ∈ xs ∨ y = Str.empty
  | 0, _, _, y, h => absurd h (by simp [rowN])
  | k + 1, n, xs, y, h => by
    rw [rowN] at h
    rcases List.mem_cons.mp h with rfl | h
    · rw [List.getD_eq_getElem?_getD]
      cases e : xs[n / fac (xs.length - 1)]? with
      | none => exact .inr rfl
      | some a => exact .inl (List.mem_of_getElem? e)
    · rcases rowN_mem k _ _ y h with h | h
      · exact .inl (List.mem_of_mem_eraseIdx h)
      · exact .inr h
theorem apS_len (n : Int) : (apS n).length ≤ 3 := by
  show (apL n).toArray.size ≤ 3
  rw [List.size_toArray]
  unfold apL
  split
  · exact (by decide : 1 ≤ 3)
  · split
    · exact (by decide : 2 ≤ 3)
    · exact Nat.le_refl 3
theorem row_short {k n : Nat} {ns : List Int} : ∀ y ∈ rowN k n (ns.map apS), y.length ≤ 10 := by
  intro y hy
  rcases rowN_mem _ _ _ y hy with h | rfl
  · obtain ⟨a, _, rfl⟩ := List.mem_map.mp h
    exact Nat.le_trans (apS_len a) (by decide)
  · decide
def wayOf (xs : List Str) (o : Int) : Str := joined (rowN xs.length o.toNat xs)
theorem ways_snoc {xs : List Str} {n : Int} {j : Nat} {t : Tok} {zs : List Value} {ns : List Int} (h : StrsAre zs ((ns.take j).map (wayOf xs))) (e : ns[j]? = some n) : StrsAre (zs ++ [.str (joined (rowN xs.length n.toNat xs)) t]) ((ns.take (j + 1)).map (wayOf xs)) := by
  rw [List.take_add_one, e, List.map_append]
  exact h.append' (.cons (wayOf xs n) t .nil)
end Mine
end
section
open PySem PySem.W PyProof.Rows PySem.Calls
set_option Elab.async false
set_option maxRecDepth 100000
set_option maxHeartbeats 4000000
namespace Mine
theorem dg_lt3 {a b : Int} (h0 : 0 ≤ a) (h : a < b) : dgN a < dgN b := by unfold dgN; omega
theorem c_lt {x y : Nat} {l r : List Nat} (h : x < y) : x :: l < y :: r := List.cons_lt_cons_iff.mpr (.inl h)
theorem c_eq {x y : Int} {l r : List Nat} (e : x = y) (h : l < r) : dgN x :: l < dgN y :: r := by subst e; exact List.cons_lt_cons_iff.mpr (.inr ⟨rfl, h⟩)
theorem pq (a : Int) (h : 0 ≤ a) : a = 16 * (a / 16) + a % 16 ∧ 0 ≤ a / 16 ∧ 0 ≤ a % 16 ∧ a % 16 < 16 := by omega
theorem pq2 (a : Int) : a / 256 = a / 16 / 16 := by omega
theorem two_lt {p q r s : Int} {l : List Nat} (p0 : 0 ≤ p) (q0 : 0 ≤ q) (q1 : q < 16) (s0 : 0 ≤ s) (s1 : s < 16) (h : 16 * p + q < 16 * r + s) : dgN p :: dgN q :: [] < dgN r :: dgN s :: l := by
  rcases (by omega : p < r ∨ (p = r ∧ q < s)) with h | ⟨rfl, k⟩
  · exact c_lt (dg_lt3 p0 h)
  · exact c_eq rfl (c_lt (dg_lt3 q0 k))
theorem two_le {p q r s t : Int} (p0 : 0 ≤ p) (q0 : 0 ≤ q) (q1 : q < 16) (s0 : 0 ≤ s) (s1 : s < 16) (h : 16 * p + q ≤ 16 * r + s) : dgN p :: dgN q :: [] < dgN r :: dgN s :: dgN t :: [] := by
  rcases (by omega : p < r ∨ (p = r ∧ q < s) ∨ (p = r ∧ q = s)) with h | ⟨rfl, k⟩ | ⟨rfl, rfl⟩
  · exact c_lt (dg_lt3 p0 h)
  · exact c_eq rfl (c_lt (dg_lt3 q0 k))
  · exact c_eq rfl (c_eq rfl (List.nil_lt_cons ..))
theorem three_lt {p q u r s v : Int} (p0 : 0 ≤ p) (q0 : 0 ≤ q) (q1 : q < 16) (u0 : 0 ≤ u) (u1 : u < 16) (s0 : 0 ≤ s) (s1 : s < 16) (v0 : 0 ≤ v) (v1 : v < 16) (h : 16 * (16 * p + q) + u < 16 * (16 * r + s) + v) : [dgN p, dgN q, dgN u] < [dgN r, dgN s, dgN v] := by
  rcases (by omega : p < r ∨ (p = r ∧ q < s) ∨ (p = r ∧ q = s ∧ u < v)) with h | ⟨rfl, k⟩ | ⟨rfl, rfl, k⟩
  · exact c_lt (dg_lt3 p0 h)
  · exact c_eq rfl (c_lt (dg_lt3 q0 k))
  · exact c_eq rfl (c_eq rfl (c_lt (dg_lt3 u0 k)))
/-- the key, and the figures -/
theorem ap1 {a : Int} (h : a ≤ 15) : apL a = [dgN a] ∧ kz a = a * 256 * 4 + 1 := by
  unfold apL kz dk fg; rw [if_pos (by omega), if_pos h, if_pos h]; exact ⟨rfl, rfl⟩
theorem ap2 {a : Int} (h : ¬ a ≤ 15) (h2 : a ≤ 255) : apL a = [dgN (a / 16), dgN (a % 16)] ∧ kz a = a * 16 * 4 + 2 := by
  unfold apL kz dk fg; rw [if_neg (by omega), if_pos (by omega), if_neg h, if_pos h2, if_neg h, if_pos h2]; exact ⟨rfl, rfl⟩
theorem ap3 {a : Int} (h : ¬ a ≤ 15) (h2 : ¬ a ≤ 255) : apL a = [dgN (a / 16 / 16), dgN (a / 16 % 16), dgN (a % 16)] ∧ kz a = a * 4 + 3 := by
  unfold apL kz dk fg; rw [if_neg (by omega), if_neg (by omega), if_neg h, if_neg h2, if_neg h, if_neg h2, ← pq2]; exact ⟨rfl, rfl⟩
theorem apL_lt {a b : Int} (ha : 1 ≤ a) (ha' : a < 4096) (hb : 1 ≤ b) (hb' : b < 4096) (h : kz a < kz b) : apL a < apL b := by
  have pa := pq a (by omega)
  have pb := pq b (by omega)
  have pa2 := pq (a / 16) pa.2.1
  have pb2 := pq (b / 16) pb.2.1
  by_cases a1 : a ≤ 15
  · rw [(ap1 a1).2] at h
    rw [(ap1 a1).1]
    by_cases b1 : b ≤ 15
    · rw [(ap1 b1).2] at h
      rw [(ap1 b1).1]
      exact c_lt (dg_lt3 (by omega) (by omega))
    · by_cases b2 : b ≤ 255
      · rw [(ap2 b1 b2).2] at h
        rw [(ap2 b1 b2).1]
        generalize b / 16 = r, b % 16 = s at *
        rcases (by omega : a < r ∨ a = r) with h | h
        · exact c_lt (dg_lt3 (by omega) h)
        · exact c_eq h (List.nil_lt_cons ..)
      · rw [(ap3 b1 b2).2] at h
        rw [(ap3 b1 b2).1]
        clear pa pa2
        generalize b / 16 = r, b % 16 = s at *
        generalize r / 16 = r, r % 16 = s at *
        rcases (by omega : a < r ∨ a = r) with h | h
        · exact c_lt (dg_lt3 (by omega) h)
        · exact c_eq h (List.nil_lt_cons ..)
  · by_cases a2 : a ≤ 255
    · rw [(ap2 a1 a2).2] at h
      rw [(ap2 a1 a2).1]
      clear pa2
      generalize a / 16 = p, a % 16 = q at *
      by_cases b1 : b ≤ 15
      · rw [(ap1 b1).2] at h
        rw [(ap1 b1).1]
        clear pb pb2
        exact c_lt (dg_lt3 (by omega) (by omega))
      · by_cases b2 : b ≤ 255
        · rw [(ap2 b1 b2).2] at h
          rw [(ap2 b1 b2).1]
          clear pb2
          generalize b / 16 = r, b % 16 = s at *
          exact two_lt (by omega) (by omega) (by omega) (by omega) (by omega) (by omega)
        · rw [(ap3 b1 b2).2] at h
          rw [(ap3 b1 b2).1]
          generalize b / 16 = r, b % 16 = s at *
          generalize r / 16 = r2, r % 16 = s2 at *
          exact two_le (by omega) (by omega) (by omega) (by omega) (by omega) (by omega)
    · rw [(ap3 a1 a2).2] at h
      rw [(ap3 a1 a2).1]
      generalize a / 16 = p, a % 16 = q at *
      generalize p / 16 = p2, p % 16 = q2 at *
      by_cases b1 : b ≤ 15
      · rw [(ap1 b1).2] at h
        rw [(ap1 b1).1]
        clear pb pb2
        exact c_lt (dg_lt3 (by omega) (by omega))
      · by_cases b2 : b ≤ 255
        · rw [(ap2 b1 b2).2] at h
          rw [(ap2 b1 b2).1]
          clear pb2
          generalize b / 16 = r, b % 16 = s at *
          rcases (by omega : p2 < r ∨ (p2 = r ∧ q2 < s)) with h | ⟨h, h2⟩
          · exact c_lt (dg_lt3 (by omega) h)
          · exact c_eq h (c_lt (dg_lt3 (by omega) h2))
        · rw [(ap3 b1 b2).2] at h
          rw [(ap3 b1 b2).1]
          generalize b / 16 = r, b % 16 = s at *
          generalize r / 16 = r2, r % 16 = s2 at *
          exact three_lt (by omega) (by omega) (by omega) (by omega) (by omega) (by omega) (by omega) (by omega) (by omega) (by omega)
theorem apS_ltS {a b : Int} (ha : 1 ≤ a) (ha' : a < 4096) (hb : 1 ≤ b) (hb' : b < 4096) (h : kz a < kz b) : ltS (apS a) (apS b) := by
  show (apL a).toArray.toList < (apL b).toArray.toList
  exact apL_lt ha ha' hb hb' h
theorem names_inc : ∀ {ns : List Int}, (∀ x ∈ ns, 14 ≤ x ∧ x < 454) → ns.Pairwise (fun a b => kz a < kz b) → Inc (ns.map apS)
  | [], _, _ => List.Pairwise.nil
  | a :: r, hb, h => by
    rw [List.pairwise_cons] at h
    refine List.pairwise_cons.mpr ⟨fun y hy => ?_, names_inc (fun x hx => hb x (.tail _ hx)) h.2⟩
    obtain ⟨b, hb', rfl⟩ := List.mem_map.mp hy
    have h1 := hb a (.head _)
    have h2 := hb b (.tail _ hb')
    exact apS_ltS (by omega) (by omega) (by omega) (by omega) (h.1 b hb')
theorem apL_ge {n : Int} : ∀ c ∈ apL n, 65 ≤ c := by
  intro c hc
  unfold apL dgN at hc
  split at hc
  · simp only [List.mem_cons, List.not_mem_nil, or_false] at hc; omega
  · split at hc
    · simp only [List.mem_cons, List.not_mem_nil, or_false] at hc; omega
    · simp only [List.mem_cons, List.not_mem_nil, or_false] at hc; omega
theorem apL_le {n : Int} (h1 : n < 4096) : ∀ c ∈ apL n, c < 81 := by
  intro c hc
  unfold apL dgN at hc
  split at hc
  · simp only [List.mem_cons, List.not_mem_nil, or_false] at hc; omega
  · split at hc
    · simp only [List.mem_cons, List.not_mem_nil, or_false] at hc; omega
    · simp only [List.mem_cons, List.not_mem_nil, or_false] at hc; omega
theorem names_ok {ns : List Int} (hb : ∀ x ∈ ns, 14 ≤ x ∧ x < 454) : ∀ x ∈ ns.map apS, PyData.strOk x = true := by
  intro x hx
  obtain ⟨n, hn, rfl⟩ := List.mem_map.mp hx
  show (apL n).toArray.all (fun c => decide (c < 0x110000)) = true
  rw [List.all_toArray, List.all_eq_true]
  intro c hc
  have := apL_le (n := n) (by have := hb n hn; omega) c hc
  exact decide_eq_true (by omega)
end Mine
end
section
open PySem PySem.W PyProof.Rows PySem.Calls
set_option Elab.async false
set_option maxRecDepth 100000
set_option maxHeartbeats 4000000
namespace Mine
def NmS (x : Str) : Prop := x.cps.toList ≠ [] ∧ x.length ≤ 3 ∧ ∀ c ∈ x.cps.toList, 65 ≤ c
theorem names_nm {ns : List Int} : ∀ x ∈ ns.map apS, NmS x := by
  intro x hx
  obtain ⟨n, _, rfl⟩ := List.mem_map.mp hx
  refine ⟨?_, apS_len n, fun c hc => apL_ge c hc⟩
  show apL n ≠ []
  unfold apL
  split
  · simp
  · split <;> simp
theorem fac_succ (k : Nat) : fac (k + 1) = (k + 1) * fac k := rfl
theorem dig_lt {n k : Nat} (h : n < fac (k + 1)) : n / fac k < k + 1 := by
  rw [Nat.div_lt_iff_lt_mul (fac_pos k)]; exact h
theorem rowN_succ {k n : Nat} {xs : List Str} (hk : xs.length = k + 1) : rowN (k + 1) n xs = xs.getD (n / fac k) Str.empty :: rowN k (n % fac k) (xs.eraseIdx (n / fac k)) := by
  rw [rowN, hk]; rfl
theorem getD_at {xs : List Str} {d : Nat} (h : d < xs.length) : xs.getD d Str.empty = xs[d] := by
  rw [List.getD_eq_getElem?_getD, List.getElem?_eq_getElem h]; rfl
theorem erase_perm : ∀ {xs : List Str} {d : Nat} {x : Str}, xs[d]? = some x → (x :: xs.eraseIdx d).Perm xs
  | [], _, _, h => by simp at h
  | a :: r, 0, x, h => by
    obtain rfl : a = x := by simpa using h
    exact List.Perm.refl _
  | a :: r, d + 1, x, h => by
    rw [List.eraseIdx_cons_succ]
    exact (List.Perm.swap a x _).trans (List.Perm.cons a (erase_perm (by simpa using h)))
theorem row_perm' : ∀ (k : Nat) (xs : List Str) (n : Nat), xs.length = k → n < fac k → (rowN k n xs).Perm xs
  | 0, xs, n, hk, _ => by rw [List.eq_nil_of_length_eq_zero hk]; exact List.Perm.refl _
  | k + 1, xs, n, hk, hn => by
    have hd := dig_lt hn
    rw [rowN_succ hk, getD_at (by omega)]
    refine List.Perm.trans (List.Perm.cons _ (row_perm' k _ _ (by rw [List.length_eraseIdx_of_lt (by omega)]; omega) (Nat.mod_lt _ (fac_pos k)))) ?_
    exact erase_perm (List.getElem?_eq_getElem (by omega))
theorem row_perm {xs : List Str} {n : Nat} (h : n < fac xs.length) : (rowN xs.length n xs).Perm xs := row_perm' _ _ _ rfl h
theorem inc_erase {xs : List Str} (d : Nat) (h : Inc xs) : Inc (xs.eraseIdx d) := List.Pairwise.sublist (List.eraseIdx_sublist ..) h
theorem erase_filter : ∀ {xs : List Str} {d : Nat} {x : Str}, xs.Nodup → xs[d]? = some x → xs.eraseIdx d = xs.filter (fun y => decide (y ≠ x))
  | [], _, _, _, h => by simp at h
  | a :: r, 0, x, hn, h => by
    obtain rfl : a = x := by simpa using h
    rw [List.nodup_cons] at hn
    rw [List.eraseIdx_cons_zero, List.filter_cons_of_neg (by simp)]
    refine (List.filter_eq_self.mpr fun y hy => ?_).symm
    exact decide_eq_true fun e => hn.1 (e ▸ hy)
  | a :: r, d + 1, x, hn, h => by
    rw [List.nodup_cons] at hn
    have hx : x ∈ r := List.mem_of_getElem? (by simpa using h)
    rw [List.eraseIdx_cons_succ, List.filter_cons_of_pos (by exact decide_eq_true fun e => hn.1 (e ▸ hx)), erase_filter hn.2 (by simpa using h)]
theorem cnt_at : ∀ {xs : List Str} {d : Nat} {x : Str}, Inc xs → xs[d]? = some x → cntLt xs x = d
  | [], _, _, _, h => by simp at h
  | a :: r, 0, x, hx, h => by
    obtain rfl : a = x := by simpa using h
    have hx' := List.pairwise_cons.mp hx
    unfold cntLt
    rw [List.length_eq_zero_iff, List.filter_eq_nil_iff]
    intro y hy
    have : ¬ y.cps.toList < a.cps.toList := by
      rcases List.mem_cons.mp hy with rfl | hy
      · exact List.lt_irrefl _
      · exact fun h2 => List.lt_irrefl _ (List.lt_trans (hx'.1 y hy) h2)
    simpa using this
  | a :: r, d + 1, x, hx, h => by
    have hx' := List.pairwise_cons.mp hx
    have hr : r[d]? = some x := by simpa using h
    have ha : a.cps.toList < x.cps.toList := hx'.1 x (List.mem_of_getElem? hr)
    have ih := cnt_at hx'.2 hr
    unfold cntLt at ih ⊢
    rw [List.filter_cons_of_pos (by simpa using ha), List.length_cons, ih]
theorem rk_go : ∀ (k : Nat) (xs ys pre rem : List Str) (m q : Nat), Inc xs → rem = xs.filter (fun x => decide (x ∉ pre)) → rem.length = k → xs.length = pre.length + k → m < fac k → ys = pre ++ rowN k m rem → rk xs ys pre.length = q → rk xs ys (pre.length + k) = q * fac k + m
  | 0, xs, ys, pre, rem, m, q, _, _, _, _, hm, _, hq => by
    have hm' : m < 1 := hm
    rw [Nat.add_zero, hq, show fac 0 = 1 from rfl]; omega
  | k + 1, xs, ys, pre, rem, m, q, hx, hr, hk, hl, hm, hy, hq => by
    have hd := dig_lt hm
    have hrn : Inc rem := by rw [hr]; exact List.Pairwise.sublist (List.filter_sublist ..) hx
    have hdl : m / fac k < rem.length := by omega
    generalize hX : rem.getD (m / fac k) Str.empty = x at *
    have hxr : rem[m / fac k]? = some x := by rw [List.getElem?_eq_getElem hdl, ← getD_at hdl, hX]
    rw [rowN_succ hk, hX] at hy
    have hy2 : ys = (pre ++ [x]) ++ rowN k (m % fac k) (rem.eraseIdx (m / fac k)) := by rw [hy]; simp
    have ht : ys.take pre.length = pre := by rw [hy]; simp
    have hg : ys.getD pre.length default = x := by rw [hy, List.getD_eq_getElem?_getD]; simp
    have hstep : rk xs ys (pre.length + 1) = q * (k + 1) + m / fac k := by
      show rk xs ys pre.length * (xs.length - pre.length) + cntLt (xs.filter fun x => decide (x ∉ ys.take pre.length)) (ys.getD pre.length default) = _
      rw [hq, ht, hg, ← hr, cnt_at hrn hxr, hl, Nat.add_sub_cancel_left]
    have := rk_go k xs ys (pre ++ [x]) (rem.eraseIdx (m / fac k)) (m % fac k) (q * (k + 1) + m / fac k) hx
      (by
        rw [erase_filter (inc_nodup hrn) hxr, hr, List.filter_filter]
        refine List.filter_congr fun y _ => ?_
        rw [Bool.eq_iff_iff]
        simp only [Bool.and_eq_true, decide_eq_true_eq, List.mem_append, List.mem_singleton, not_or]
        exact And.comm)
      (by rw [List.length_eraseIdx_of_lt (by omega)]; omega) (by simp; omega) (Nat.mod_lt _ (fac_pos k)) hy2 (by simpa using hstep)
    rw [List.length_append, List.length_singleton, Nat.add_assoc, Nat.add_comm 1 k] at this
    rw [this, fac_succ, Nat.add_mul, Nat.mul_assoc, Nat.add_assoc]
    have := Nat.div_add_mod m (fac k)
    rw [Nat.mul_comm (m / fac k)]
    omega
theorem row_rk {xs : List Str} {n : Nat} (hx : Inc xs) (h : n < fac xs.length) : rk xs (rowN xs.length n xs) xs.length = n := by
  have := rk_go xs.length xs (rowN xs.length n xs) [] xs n 0 hx (List.filter_eq_self.mpr (by simp)).symm rfl (by simp) h rfl rfl
  simpa using this
end Mine
end
section
open PySem PySem.W PyProof.Rows PySem.Calls
set_option Elab.async false
set_option maxRecDepth 100000
set_option maxHeartbeats 4000000
namespace Mine
open Builtin Builtin.Str PyProof
theorem str_ext {x y : Str} (h : x.cps.toList = y.cps.toList) : x = y := by
  obtain ⟨⟨a⟩⟩ := x
  obtain ⟨⟨b⟩⟩ := y
  have : a = b := h
  rw [this]
theorem slash_eq : Str.ofString "/" = ⟨#[47]⟩ := by decide +kernel
theorem app_cps (x y : Str) : (x ++ y).cps.toList = x.cps.toList ++ y.cps.toList := by
  show (x.cps ++ y.cps).toList = _
  exact Array.toList_append
theorem ext_list (a : Array Nat) (i j : Nat) : (a.extract i j).toList = (a.toList.drop i).take (j - i) := by
  rw [Array.toList_extract, List.extract_eq_take_drop]
theorem sub_at {x : Str} {i : Nat} : subAt x (Str.ofString "/") i = decide ((x.cps.toList.drop i).take 1 = [47]) := by
  rw [slash_eq]
  unfold subAt
  rw [Bool.eq_iff_iff, beq_iff_eq, decide_eq_true_eq]
  have e := ext_list x.cps i (i + 1)
  rw [Nat.add_sub_cancel_left] at e
  rw [← e]
  constructor
  · intro h
    have : x.cps.extract i (i + 1) = #[47] := h
    rw [this]
  · intro h
    exact Array.toList_inj.mp h
theorem len_list (x : Str) : x.length = x.cps.toList.length := rfl
theorem slash_len : (Str.ofString "/").length = 1 := by rw [slash_eq]; rfl
theorem starts_iff {x : Str} : Txt.startswith x (Str.ofString "/") = decide (x.cps.toList.take 1 = [47]) := by
  unfold Txt.startswith
  rw [sub_at, slash_len, List.drop_zero, Bool.eq_iff_iff, Bool.and_eq_true, decide_eq_true_eq, decide_eq_true_eq, len_list]
  constructor
  · exact fun h => h.2
  · intro h
    refine ⟨?_, h⟩
    cases e : x.cps.toList with
    | nil => rw [e] at h; simp at h
    | cons c r => simp
theorem starts_not {y : Str} (h : NmS y) : Txt.startswith y (Str.ofString "/") = false := by
  rw [starts_iff, decide_eq_false_iff_not]
  obtain ⟨h1, _, h3⟩ := h
  cases e : y.cps.toList with
  | nil => exact absurd e h1
  | cons c r =>
    rw [e] at h3
    have := h3 c (.head _)
    intro h
    have h' : [c] = [47] := h
    have : c = 47 := by simpa using h'
    omega
theorem ends_iff {x : Str} {q : List Nat} {c : Nat} (e : x.cps.toList = q ++ [c]) : Txt.endswith x (Str.ofString "/") = decide (c = 47) := by
  unfold Txt.endswith
  rw [sub_at, slash_len, len_list, e]
  rw [List.length_append, List.length_singleton, Nat.add_sub_cancel, List.drop_left, Bool.eq_iff_iff, Bool.and_eq_true, decide_eq_true_eq, decide_eq_true_eq, decide_eq_true_eq]
  constructor
  · intro h
    simpa using h.2
  · rintro rfl
    exact ⟨by omega, rfl⟩
theorem nm_last {y : Str} (h : NmS y) : ∃ q c, y.cps.toList = q ++ [c] ∧ c ≠ 47 := by
  obtain ⟨h1, _, h3⟩ := h
  refine ⟨y.cps.toList.dropLast, y.cps.toList.getLast h1, (List.dropLast_concat_getLast h1).symm, ?_⟩
  have := h3 _ (List.getLast_mem h1)
  omega
def pathC (ys : List Str) : List Nat := (ys.map fun y => 47 :: y.cps.toList).flatten
theorem pathC_nil : pathC [] = [] := rfl
theorem pathC_cons (y : Str) (ys : List Str) : pathC (y :: ys) = 47 :: (y.cps.toList ++ pathC ys) := rfl
theorem pathC_app (xs ys : List Str) : pathC (xs ++ ys) = pathC xs ++ pathC ys := by unfold pathC; rw [List.map_append, List.flatten_append]
theorem fold_path : ∀ (ys : List Str) (p : Str) (q : List Nat) (c : Nat), p.cps.toList = q ++ [c] → c ≠ 47 → (∀ y ∈ ys, NmS y) → (ys.foldl joinStep p).cps.toList = p.cps.toList ++ pathC ys
  | [], p, _, _, _, _, _ => by rw [pathC_nil, List.append_nil]; rfl
  | y :: ys, p, q, c, hp, hc, hy => by
    have hny := hy y (.head _)
    have e : joinStep p y = p ++ (Str.ofString "/" ++ y) := js3 (starts_not hny) (by rw [len_list, hp]; simp; omega) (by rw [ends_iff hp]; exact decide_eq_false hc)
    have e2 : (p ++ (Str.ofString "/" ++ y)).cps.toList = p.cps.toList ++ (47 :: y.cps.toList) := by rw [app_cps, app_cps, slash_eq]; rfl
    obtain ⟨q2, c2, h2, hc2⟩ := nm_last hny
    rw [List.foldl_cons, e, fold_path ys _ (p.cps.toList ++ 47 :: q2) c2 (by rw [e2, h2]; simp) hc2 (fun z hz => hy z (.tail _ hz)), e2, pathC_cons]
    simp
theorem joined_cps {ys : List Str} (hy : ∀ y ∈ ys, NmS y) : (joined ys).cps.toList = if ys = [] then [47] else pathC ys := by
  cases ys with
  | nil => rw [if_pos rfl]; show (Str.ofString "/").cps.toList = _; rw [slash_eq]
  | cons y ys =>
    rw [if_neg (by simp)]
    have hny := hy y (.head _)
    have e : joinStep (Str.ofString "/") y = Str.ofString "/" ++ y := js2 (starts_not hny) (by rw [slash_len]; decide) (by rw [ends_iff (q := []) (c := 47) (by rw [slash_eq]; rfl)]; rfl)
    have e2 : (Str.ofString "/" ++ y).cps.toList = 47 :: y.cps.toList := by rw [app_cps, slash_eq]; rfl
    obtain ⟨q2, c2, h2, hc2⟩ := nm_last hny
    show (List.foldl joinStep (joinStep (Str.ofString "/") y) ys).cps.toList = _
    rw [e, fold_path ys _ (47 :: q2) c2 (by rw [e2, h2]; rfl) hc2 (fun z hz => hy z (.tail _ hz)), e2, pathC_cons]
    rfl
theorem way_start {ys : List Str} (hy : ∀ y ∈ ys, NmS y) : Txt.startswith (joined ys) (Str.ofString "/") = true := by
  rw [starts_iff, joined_cps hy, decide_eq_true_eq]
  cases ys with
  | nil => rfl
  | cons y ys => rw [if_neg (by simp), pathC_cons]; rfl
theorem pathC_len : ∀ {ys : List Str}, (∀ y ∈ ys, NmS y) → (pathC ys).length ≤ 4 * ys.length
  | [], _ => Nat.le_refl _
  | y :: ys, hy => by
    have h1 := pathC_len (fun z hz => hy z (.tail _ hz))
    have h2 := (hy y (.head _)).2.1
    rw [len_list] at h2
    rw [pathC_cons, List.length_cons, List.length_append, List.length_cons]
    omega
theorem way_len {ys : List Str} (hy : ∀ y ∈ ys, NmS y) (h5 : ys.length ≤ 5) : (joined ys).length ≤ 100 := by
  rw [len_list, joined_cps hy]
  split
  · decide
  · have := pathC_len hy
    omega
end Mine
end
section
open PySem PySem.W PyProof.Rows PySem.Calls
set_option Elab.async false
set_option maxRecDepth 100000
set_option maxHeartbeats 4000000
namespace Mine
open Builtin Builtin.Str PyProof
theorem at_iff {x : Str} {i : Nat} : StrLaws.At x (Str.ofString "/") x.length i ↔ x.cps.toList[i]? = some 47 := by
  unfold StrLaws.At
  rw [sub_at, slash_len, len_list, decide_eq_true_eq]
  constructor
  · rintro ⟨h1, h2⟩
    rw [List.drop_eq_getElem_cons (by omega)] at h2
    rw [List.getElem?_eq_getElem (by omega)]
    have : [x.cps.toList[i]] = [47] := h2
    simpa using this
  · intro h
    obtain ⟨h1, h2⟩ := List.getElem?_eq_some_iff.mp h
    refine ⟨h1, ?_⟩
    rw [List.drop_eq_getElem_cons h1, h2]; rfl
theorem rfind_at {x : Str} {a t : List Nat} (e : x.cps.toList = a ++ 47 :: t) (ht : 47 ∉ t) : Txt.rfind x (Str.ofString "/") = (a.length : Int) := by
  have h47 : x.cps.toList[a.length]? = some 47 := by rw [e]; simp
  rcases rfind_whole x (Str.ofString "/") with ⟨_, h⟩ | ⟨i, h1, h2, h3⟩
  · exact absurd (at_iff.mpr h47) (h a.length)
  · rw [h1]
    have hi := at_iff.mp h2
    rcases Nat.lt_trichotomy i a.length with hl | rfl | hl
    · exact absurd (at_iff.mpr h47) (h3 _ hl)
    · rfl
    · exfalso
      rw [e, List.getElem?_append_right (by omega)] at hi
      obtain ⟨d, hd⟩ : ∃ d, i - a.length = d + 1 := ⟨i - a.length - 1, by omega⟩
      rw [hd, List.getElem?_cons_succ] at hi
      exact ht (List.mem_of_getElem? hi)
theorem tail_at {x : Str} {a t : List Nat} (e : x.cps.toList = a ++ 47 :: t) (ht : 47 ∉ t) : (tailOf x).cps.toList = t := by
  have hl : x.length = a.length + 1 + t.length := by rw [len_list, e]; simp; omega
  unfold tailOf
  rw [rfind_at e ht, slice_from_eq (b := x.length) (by omega) (by omega) rfl]
  show ((x.cps.toList.drop ((a.length : Int) + 1).toNat).take ((x.length : Int) - ((a.length : Int) + 1)).toNat) = t
  rw [show ((a.length : Int) + 1).toNat = a.length + 1 by omega, e, List.drop_append, List.drop_of_length_le (by omega), show a.length + 1 - a.length = 1 by omega]
  show (t).take _ = t
  exact List.take_of_length_le (by omega)
theorem cut_at {x : Str} {a t : List Nat} (e : x.cps.toList = a ++ 47 :: t) (ht : 47 ∉ t) : (cutAt x).cps.toList = a ++ [47] := by
  have hl : x.length = a.length + 1 + t.length := by rw [len_list, e]; simp; omega
  unfold cutAt
  rw [rfind_at e ht]
  have := slice_closes_to (x := x) (j := (a.length : Int) + 1) ⟨by omega, by rw [← len_list]; omega⟩
  rw [beq_iff_eq] at this
  rw [this]
  show ((x.cps.toList.drop (0 : Int).toNat).take ((a.length : Int) + 1 - 0).toNat) = a ++ [47]
  rw [show ((a.length : Int) + 1 - 0).toNat = a.length + 1 by omega, show (0 : Int).toNat = 0 from rfl, List.drop_zero, e, List.take_append, List.take_of_length_le (by omega), show a.length + 1 - a.length = 1 by omega]
  rfl
theorem mul_slash (n : Int) : ∀ c ∈ (Txt.mul (Str.ofString "/") n).cps.toList, c = 47 := by
  rw [slash_eq]
  unfold Txt.mul
  split
  · intro c hc; exact absurd hc (by simp [Str.empty])
  · split
    · intro c hc; simpa using hc
    · have key : ∀ (k : Nat) (acc : Array Nat), (∀ c ∈ acc.toList, c = 47) → ∀ c ∈ ((List.replicate k (#[47] : Array Nat)).foldl (· ++ ·) acc).toList, c = 47 := by
        intro k
        induction k with
        | zero => intro acc h c hc; exact h c hc
        | succ k ih =>
          intro acc h
          rw [List.replicate_succ, List.foldl_cons]
          refine ih _ fun c hc => ?_
          rw [Array.toList_append] at hc
          rcases List.mem_append.mp hc with hc | hc
          · exact h c hc
          · simpa using hc
      exact key _ _ (fun c hc => absurd hc (by simp))
theorem rstrip_at {x : Str} {q : List Nat} {c : Nat} (e : x.cps.toList = q ++ [c] ++ [47]) (hc : c ≠ 47) : (Txt.rstripChars x (Str.ofString "/")).cps.toList = q ++ [c] := by
  unfold Txt.rstripChars
  rw [PyProof.Rows.stripBy_eq]
  have h47 : (Str.ofString "/").cps.contains 47 = true := by decide +kernel
  have hcc : (Str.ofString "/").cps.contains c = false := by
    rw [slash_eq]
    show (#[47] : Array Nat).contains c = false
    rw [Bool.eq_false_iff]
    intro h
    rw [Array.contains_iff_mem] at h
    have : c = 47 := by simpa using h
    exact hc this
  have hlo : stripLo (Str.ofString "/").cps.contains false x = 0 := rfl
  rw [hlo]
  have hhi : stripHi (Str.ofString "/").cps.contains true x 0 = q.length + 1 := by
    show x.length - ((x.cps.toList.drop 0).reverse.takeWhile _).length = _
    rw [List.drop_zero, len_list, e, List.reverse_append, List.reverse_append]
    show _ - (List.takeWhile _ (47 :: c :: q.reverse)).length = _
    rw [List.takeWhile_cons_of_pos h47, List.takeWhile_cons_of_neg (by rw [hcc]; decide)]
    simp
  rw [hhi]
  show (x.cps.extract 0 (q.length + 1)).toList = _
  rw [ext_list, List.drop_zero, e, Nat.sub_zero, List.take_append_of_le_length (by simp)]
  exact List.take_of_length_le (by simp)
theorem head_top {x : Str} {t : List Nat} (e : x.cps.toList = 47 :: t) (ht : 47 ∉ t) : headOf x = Str.ofString "/" := by
  have hc : cutAt x = Str.ofString "/" := str_ext (by rw [cut_at (a := []) e ht, slash_eq]; rfl)
  rw [headOf2 (by rw [hc, slash_len]; decide) (by rw [hc]; decide +kernel), hc]
theorem head_at {x : Str} {q t : List Nat} {c : Nat} (e : x.cps.toList = q ++ [c] ++ 47 :: t) (hc : c ≠ 47) (ht : 47 ∉ t) : (headOf x).cps.toList = q ++ [c] := by
  have h := cut_at e ht
  rw [headOf1 (by rw [len_list, h]; simp; omega) ?_]
  · exact rstrip_at h hc
  · rw [bne_iff_ne]
    intro h2
    have h3 := mul_slash ((cutAt x).length : Int)
    rw [← h2, h] at h3
    exact hc (h3 c (by simp))
theorem nm_free {y : Str} (h : NmS y) : 47 ∉ y.cps.toList := fun hm => by have := h.2.2 _ hm; omega
theorem way_step {ys : List Str} (hy : ∀ y ∈ ys, NmS y) {k : Nat} {y : Str} (h : ys[k]? = some y) : headOf (joined (ys.take (k + 1))) = joined (ys.take k) ∧ tailOf (joined (ys.take (k + 1))) = y := by
  have ht : ys.take (k + 1) = ys.take k ++ [y] := by rw [List.take_add_one, h]; rfl
  have hp : ∀ z ∈ ys.take k, NmS z := fun z hz => hy z (List.mem_of_mem_take hz)
  have hq : ∀ z ∈ ys.take (k + 1), NmS z := fun z hz => hy z (List.mem_of_mem_take hz)
  have hf := nm_free (hy y (List.mem_of_getElem? h))
  have e : (joined (ys.take (k + 1))).cps.toList = pathC (ys.take k) ++ 47 :: y.cps.toList := by
    rw [joined_cps hq, if_neg (by rw [ht]; simp), ht, pathC_app]
    show pathC (ys.take k) ++ 47 :: (y.cps.toList ++ []) = _
    rw [List.append_nil]
  refine ⟨?_, str_ext (tail_at e hf)⟩
  have hj := joined_cps hp
  generalize ys.take k = P at *
  rcases List.eq_nil_or_concat P with rfl | ⟨P', z, rfl⟩
  · exact head_top e hf
  · have hz := hp z (by simp)
    obtain ⟨q, c, hqc, hc⟩ := nm_last hz
    have e2 : pathC (P' ++ [z]) = (pathC P' ++ 47 :: q) ++ [c] := by
      rw [pathC_app]
      show pathC P' ++ 47 :: (z.cps.toList ++ []) = _
      rw [hqc]; simp
    rw [List.concat_eq_append] at *
    rw [if_neg (by simp), e2] at hj
    rw [e2] at e
    exact str_ext ((head_at e hc hf).trans hj.symm)
end Mine
end
section
open PySem PySem.W PyProof.Rows PySem.Calls
set_option Elab.async false
set_option maxRecDepth 100000
set_option maxHeartbeats 4000000
namespace Mine
open Builtin Builtin.Str PyProof
def comW (xs : List Str) (a b : Int) : Str := Str.ofString "/" ++ Txt.join (Str.ofString "/") (comPre (rowN xs.length a.toNat xs) (rowN xs.length b.toNat xs))
def told (a b : Int) : Int := if a < b then -1 else if a = b then 0 else 1
theorem join_path : ∀ (ys : List Str) (z : Str), (Str.join (Str.ofString "/") (z :: ys)).cps.toList = z.cps.toList ++ pathC ys
  | [], z => by rw [pathC_nil, List.append_nil]; rfl
  | y :: r, z => by
    show (z ++ Str.ofString "/" ++ Str.join (Str.ofString "/") (y :: r)).cps.toList = _
    rw [app_cps, app_cps, join_path r y, slash_eq, pathC_cons, List.append_assoc]; rfl
theorem cut_uniq : ∀ {a b s t : List Nat}, a ++ 47 :: s = b ++ 47 :: t → 47 ∉ a → 47 ∉ b → a = b ∧ s = t
  | [], [], _, _, h, _, _ => ⟨rfl, (List.cons.inj h).2⟩
  | [], c :: b, _, _, h, _, hb => absurd ((List.cons.inj h).1 ▸ List.mem_cons_self) hb
  | c :: a, [], _, _, h, ha, _ => absurd ((List.cons.inj h).1 ▸ List.mem_cons_self) ha
  | c :: a, d :: b, _, _, h, ha, hb => by
    obtain ⟨h1, h2⟩ := List.cons.inj h
    obtain ⟨e1, e2⟩ := cut_uniq h2 (fun hm => ha (.tail _ hm)) (fun hm => hb (.tail _ hm))
    exact ⟨by rw [h1, e1], e2⟩
theorem join_uniq : ∀ {ps qs : List Str}, (∀ p ∈ ps, 47 ∉ p.cps.toList) → (∀ q ∈ qs, 47 ∉ q.cps.toList) → ps ≠ [] → qs ≠ [] → (Str.join (Str.ofString "/") ps).cps.toList = (Str.join (Str.ofString "/") qs).cps.toList → ps = qs
  | [], _, _, _, h, _, _ => absurd rfl h
  | _ :: _, [], _, _, _, h, _ => absurd rfl h
  | [p], [q], _, _, _, _, h => by
    rw [join_path, join_path, pathC_nil, List.append_nil, List.append_nil] at h
    rw [str_ext h]
  | [p], q :: q2 :: r, hp, hq, _, _, h => by
    rw [join_path, join_path, pathC_nil, List.append_nil, pathC_cons] at h
    exact absurd (by rw [h]; simp) (hp p (.head _))
  | p :: p2 :: r, [q], hp, hq, _, _, h => by
    rw [join_path, join_path, pathC_nil, List.append_nil, pathC_cons] at h
    exact absurd (by rw [← h]; simp) (hq q (.head _))
  | p :: p2 :: r, q :: q2 :: t, hp, hq, _, _, h => by
    rw [join_path, join_path, pathC_cons, pathC_cons] at h
    obtain ⟨e1, e2⟩ := cut_uniq h (hp p (.head _)) (hq q (.head _))
    rw [← join_path, ← join_path] at e2
    rw [str_ext e1, join_uniq (fun z hz => hp z (.tail _ hz)) (fun z hz => hq z (.tail _ hz)) (by simp) (by simp) e2]
theorem split_eq {ys : List Str} (hy : ∀ y ∈ ys, NmS y) (hne : ys ≠ []) : Txt.split (joined ys) (Str.ofString "/") = Str.empty :: ys := by
  refine join_uniq ?_ ?_ ?_ (by simp) ?_
  · rw [slash_eq]; exact StrLaws.split_free _ 47
  · intro q hq
    rcases List.mem_cons.mp hq with rfl | hq
    · simp [Str.empty]
    · exact nm_free (hy q hq)
  · have := split_pos (joined ys) (Str.ofString "/")
    intro e; rw [e] at this; simp at this
  · rw [StrLaws.join_split, join_path, joined_cps hy, if_neg hne]; rfl
theorem keep_nm {y : Str} (h : NmS y) : keepS y = true := by
  unfold keepS
  rw [decide_eq_true_eq]
  refine ⟨fun e => h.1 (List.eq_nil_of_length_eq_zero e), ?_⟩
  rintro rfl
  have := h.2.2 46 (by decide +kernel)
  omega
theorem way_split {ys : List Str} (hy : ∀ y ∈ ys, NmS y) (hne : ys ≠ []) : (Txt.split (joined ys) (Str.ofString "/")).filter keepS = ys := by
  rw [split_eq hy hne, List.filter_cons_of_neg (by decide +kernel)]
  exact List.filter_eq_self.mpr fun y hm => keep_nm (hy y hm)
theorem way_parts {ys : List Str} (hy : ∀ y ∈ ys, NmS y) (hne : ys ≠ []) (h5 : ys.length ≤ 5) : (Txt.split (joined ys) (Str.ofString "/")).length ≤ 100 := by
  rw [split_eq hy hne, List.length_cons]; omega
theorem lex_lt : ∀ {x y u v : List Nat}, x < y → (∀ c ∈ y, 65 ≤ c) → (u = [] ∨ ∃ t, u = 47 :: t) → x ++ u < y ++ v
  | _, [], _, _, h, _, _ => absurd h (List.not_lt_nil _)
  | [], c :: y, u, v, _, hy, hu => by
    rcases hu with rfl | ⟨t, rfl⟩
    · exact List.nil_lt_cons _ _
    · have := hy c (.head _)
      exact List.cons_lt_cons_iff.mpr (.inl (by omega))
  | a :: x, c :: y, u, v, h, hy, hu => by
    rcases List.cons_lt_cons_iff.mp h with h | ⟨e, h⟩
    · exact List.cons_lt_cons_iff.mpr (.inl h)
    · exact List.cons_lt_cons_iff.mpr (.inr ⟨e, lex_lt h (fun z hz => hy z (.tail _ hz)) hu⟩)
theorem pathC_head (ys : List Str) : pathC ys = [] ∨ ∃ t, pathC ys = 47 :: t := by
  cases ys with
  | nil => exact .inl rfl
  | cons y r => exact .inr ⟨_, pathC_cons y r⟩
theorem app_lt : ∀ {x u v : List Nat}, u < v → x ++ u < x ++ v
  | [], _, _, h => h
  | c :: x, _, _, h => List.cons_lt_cons_iff.mpr (.inr ⟨rfl, app_lt (x := x) h⟩)
theorem inc_at {xs : List Str} (hx : Inc xs) {i j : Nat} (h : i < j) (hj : j < xs.length) : ltS xs[i] xs[j] := List.pairwise_iff_getElem.mp hx i j (by omega) hj h
theorem path_lt : ∀ (k : Nat) (xs : List Str) (a b : Nat), xs.length = k → Inc xs → (∀ x ∈ xs, NmS x) → a < b → b < fac k → pathC (rowN k a xs) < pathC (rowN k b xs)
  | 0, _, a, b, _, _, _, h, hb => by have : b < 1 := hb; omega
  | k + 1, xs, a, b, hk, hx, hn, h, hb => by
    have hd2 := dig_lt hb
    have hd1 := dig_lt (Nat.lt_trans h hb)
    have hle : a / fac k ≤ b / fac k := Nat.div_le_div_right (Nat.le_of_lt h)
    rw [rowN_succ hk, rowN_succ hk, getD_at (by omega), getD_at (by omega), pathC_cons, pathC_cons]
    refine List.cons_lt_cons_iff.mpr (.inr ⟨rfl, ?_⟩)
    rcases Nat.lt_or_eq_of_le hle with hlt | heq
    · exact lex_lt (inc_at hx hlt (by omega)) (hn _ (List.getElem_mem _)).2.2 (pathC_head _)
    · have h1 := Nat.div_add_mod a (fac k)
      have h2 := Nat.div_add_mod b (fac k)
      simp only [← heq] at h2 ⊢
      refine app_lt (path_lt k _ _ _ (by rw [List.length_eraseIdx_of_lt (by omega)]; omega) (inc_erase _ hx) (fun z hz => hn z (List.mem_of_mem_eraseIdx hz)) (by omega) (Nat.mod_lt _ (fac_pos k)))
end Mine
end
section
open PySem PySem.W PyProof.Rows PySem.Calls
set_option Elab.async false
set_option maxRecDepth 100000
set_option maxHeartbeats 4000000
namespace Mine
open Builtin Builtin.Str PyProof
theorem way_cps {xs : List Str} (hn : ∀ x ∈ xs, NmS x) (h0 : 0 < xs.length) {a : Int} (ha : 0 ≤ a ∧ a < fac xs.length) : (wayOf xs a).cps.toList = pathC (rowN xs.length a.toNat xs) := by
  have hp := row_perm (xs := xs) (n := a.toNat) (by omega)
  have := hp.length_eq
  unfold wayOf
  rw [joined_cps (fun y hy => hn y (hp.mem_iff.mp hy)), if_neg (by intro e; rw [e] at this; simp at this; omega)]
theorem way_lt {xs : List Str} (hx : Inc xs) (hn : ∀ x ∈ xs, NmS x) {a b : Int} (ha : 0 ≤ a) (hab : a < b) (hb : b < fac xs.length) : (wayOf xs a).cps.toList < (wayOf xs b).cps.toList := by
  have h0 : 0 < xs.length := by
    rcases Nat.eq_zero_or_pos xs.length with h | h
    · rw [h, show fac 0 = 1 from rfl] at hb; omega
    · exact h
  rw [way_cps hn h0 ⟨ha, by omega⟩, way_cps hn h0 ⟨by omega, hb⟩]
  exact path_lt _ _ _ _ rfl hx hn (by omega) (by omega)
theorem way_cmp {xs : List Str} (hx : Inc xs) (hn : ∀ x ∈ xs, NmS x) {a b : Int} (ha : 0 ≤ a ∧ a < fac xs.length) (hb : 0 ≤ b ∧ b < fac xs.length) : cmp3 (wayOf xs a) (wayOf xs b) = told a b := by
  unfold cmp3 told
  rcases (by omega : a < b ∨ a = b ∨ b < a) with h | rfl | h
  · have hl := way_lt hx hn ha.1 h hb.2
    rw [if_pos h, decide_eq_true hl, decide_eq_false (fun h2 => List.lt_irrefl _ (List.lt_trans hl h2))]
    rfl
  · rw [if_neg (by omega), if_pos rfl, decide_eq_false (List.lt_irrefl _)]
    rfl
  · have hl := way_lt hx hn hb.1 h ha.2
    rw [if_neg (by omega), if_neg (by omega), decide_eq_true hl, decide_eq_false (fun h2 => List.lt_irrefl _ (List.lt_trans hl h2))]
    rfl
theorem fac_dvd : ∀ {i k : Nat}, i ≤ k → ∃ c, fac k = fac i * c ∧ 0 < c := by
  intro i k h
  obtain ⟨d, rfl⟩ := Nat.exists_eq_add_of_le h
  clear h
  induction d with
  | zero => exact ⟨1, by simp, Nat.one_pos⟩
  | succ d ih =>
    obtain ⟨c, hc, h0⟩ := ih
    refine ⟨(i + d + 1) * c, ?_, Nat.mul_pos (by omega) h0⟩
    rw [show i + (d + 1) = (i + d) + 1 from rfl, fac_succ, hc, Nat.mul_left_comm]
theorem div_up {a b i k : Nat} (h : i ≤ k) (e : a / fac i = b / fac i) : a / fac k = b / fac k := by
  obtain ⟨c, hc, _⟩ := fac_dvd h
  rw [hc, ← Nat.div_div_eq_div_mul, ← Nat.div_div_eq_div_mul, e]
theorem div_mod_up {a i k : Nat} (h : i ≤ k) : ∃ c, a / fac i = (a / fac k) * c + (a % fac k) / fac i ∧ fac k = fac i * c := by
  obtain ⟨c, hc, _⟩ := fac_dvd h
  refine ⟨c, ?_, hc⟩
  have h1 := Nat.div_add_mod a (fac k)
  have h2 : a = (a % fac k) + fac i * (a / fac k * c) := by
    rw [← Nat.mul_assoc, Nat.mul_comm (fac i), Nat.mul_assoc, ← hc, Nat.mul_comm (a / fac k)]; omega
  have h3 : a / fac i = ((a % fac k) + fac i * (a / fac k * c)) / fac i := by rw [← h2]
  rw [h3, Nat.add_mul_div_left _ _ (fac_pos i), Nat.add_comm]
theorem com_go : ∀ (k : Nat) (xs : List Str) (a b : Nat), xs.length = k → xs.Nodup → a < fac k → b < fac k →
    ∃ g, g ≤ k ∧ a / fac g = b / fac g ∧ (∀ i, i < g → a / fac i ≠ b / fac i) ∧ comPre (rowN k a xs) (rowN k b xs) = (rowN k a xs).take (k - g)
  | 0, xs, a, b, _, _, ha, hb => ⟨0, Nat.le_refl 0, by
      have h1 : a < 1 := ha
      have h2 : b < 1 := hb
      rw [show a = b by omega], fun i hi => absurd hi (Nat.not_lt_zero i), rfl⟩
  | k + 1, xs, a, b, hk, hx, ha, hb => by
    have d1 := dig_lt ha
    have d2 := dig_lt hb
    rw [rowN_succ hk, rowN_succ hk, getD_at (by omega), getD_at (by omega)]
    by_cases e : a / fac k = b / fac k
    · obtain ⟨g, hg, g1, g2, g3⟩ := com_go k (xs.eraseIdx (a / fac k)) (a % fac k) (b % fac k) (by rw [List.length_eraseIdx_of_lt (by omega)]; omega) (hx.sublist (List.eraseIdx_sublist ..)) (Nat.mod_lt _ (fac_pos k)) (Nat.mod_lt _ (fac_pos k))
      have key : ∀ i, i ≤ k → (a / fac i = b / fac i ↔ a % fac k / fac i = b % fac k / fac i) := by
        intro i hi
        obtain ⟨c, h1, hc⟩ := div_mod_up (a := a) hi
        obtain ⟨c', h2, hc'⟩ := div_mod_up (a := b) hi
        have hcc : c = c' := Nat.eq_of_mul_eq_mul_left (fac_pos i) (hc.symm.trans hc')
        subst hcc
        rw [h1, h2, e]
        exact Nat.add_left_cancel_iff
      refine ⟨g, by omega, (key g hg).mpr g1, fun i hi h => g2 i hi ((key i (by omega)).mp h), ?_⟩
      simp only [← e]
      rw [comPre, if_pos rfl, g3, show k + 1 - g = (k - g) + 1 by omega, List.take_succ_cons]
    · refine ⟨k + 1, Nat.le_refl _, by rw [Nat.div_eq_of_lt ha, Nat.div_eq_of_lt hb], fun i hi h => e (div_up (by omega) h), ?_⟩
      have hne : xs[a / fac k]'(by omega) ≠ xs[b / fac k]'(by omega) := by
        rcases Nat.lt_or_gt_of_ne e with h | h
        · exact List.pairwise_iff_getElem.mp hx _ _ (by omega) (by omega) h
        · exact (List.pairwise_iff_getElem.mp hx _ _ (by omega) (by omega) h).symm
      rw [comPre, if_neg hne, Nat.sub_self, List.take_zero]
theorem way_com {xs : List Str} (hx : Inc xs) (hn : ∀ x ∈ xs, NmS x) {a b : Nat} (ha : a < fac xs.length) (hb : b < fac xs.length) :
    ∃ g, g ≤ xs.length ∧ a / fac g = b / fac g ∧ (∀ i, i < g → a / fac i ≠ b / fac i) ∧ comW xs a b = joined ((rowN xs.length a xs).take (xs.length - g)) := by
  obtain ⟨g, h1, h2, h3, h4⟩ := com_go xs.length xs a b rfl (inc_nodup hx) ha hb
  refine ⟨g, h1, h2, h3, ?_⟩
  unfold comW
  rw [Int.toNat_natCast, Int.toNat_natCast, h4]
  have hp := row_perm ha
  have hy : ∀ y ∈ (rowN xs.length a xs).take (xs.length - g), NmS y := fun y hy => hn y (hp.mem_iff.mp (List.mem_of_mem_take hy))
  generalize (rowN xs.length a xs).take (xs.length - g) = ys at *
  refine str_ext ?_
  rw [app_cps, joined_cps hy]
  show _ ++ (glued (Str.ofString "/") ys).cps.toList = _
  rw [StrLaws.glued_eq_join]
  cases ys with
  | nil => rw [slash_eq]; rfl
  | cons y r => rw [join_path, if_neg (by simp), pathC_cons, slash_eq]; rfl
end Mine
end
section
open PySem PySem.W PyProof.Rows PySem.Calls
set_option Elab.async false
set_option maxRecDepth 100000
set_option maxHeartbeats 4000000
namespace Mine
theorem ord_at {os : List Int} {xs : List Str} {B : Int} {i : Nat} (hob : ∀ o ∈ os, 0 ≤ o ∧ o < B) (hi : i < os.length) :
    ∃ o, (0 ≤ o ∧ o < B) ∧ os.getD (i : Int).toNat 0 = o ∧ (os.map (wayOf xs)).getD (i : Int).toNat Str.empty = wayOf xs o := by
  rw [Int.toNat_natCast]
  refine ⟨os[i], hob _ (List.getElem_mem hi), ?_, ?_⟩
  · rw [List.getD_eq_getElem?_getD, List.getElem?_eq_getElem hi]; rfl
  · rw [List.getD_eq_getElem?_getD, List.getElem?_map, List.getElem?_eq_getElem hi]; rfl
theorem told_else {x y a b : Int} (h : ¬ x < y) (ha : x = a) (hb : y = b) : told a b = (if (x != y) = true then 1 else 0) := by
  subst ha; subst hb
  unfold told
  rw [if_neg h]
  by_cases e : x = y
  · rw [if_pos e, if_neg (by simpa using e)]
  · rw [if_neg e, if_pos (by simpa using e)]
theorem rngS {i : Nat} (h : i < 3) : Builtin.Range.small 0 ((i : Int) + 1) 1 = true ∧ Builtin.Range.rangeSize 0 ((i : Int) + 1) 1 = ((i + 1 : Nat) : Int) := rngOf (n := i + 1) (by omega)
theorem afterF1 {g h h' : Heap} {L : Addr} {o1 : Obj} {m : Str → Option Value} {led : List (Addr × Obj)} (F : Fr g L h m) (N : News g L h led) (hL : h.get? L = some o1) (K : KeepsF [(L, o1)] h h') : Fr g L h' m ∧ News g L h' led := by
  obtain ⟨K1, K2⟩ := K
  obtain ⟨s1, h1⟩ := K2 (L, o1) (List.mem_cons_self ..)
  obtain ⟨o, es, ep, ho, hd, r⟩ := F.ns
  rw [hL] at ho
  obtain rfl := Option.some.inj ho
  have gL : g.get? L = none := Heap.get?_none_of_le F.above
  refine ⟨⟨⟨_, es, ep, h1, hd, r⟩, fun b o e => K1 b o (F.keep b o e) (fun p hp q => ?_), F.above⟩, fun p hp => ⟨K1 _ _ (N p hp).1 (fun q hq e => ?_), (N p hp).2⟩⟩
  · rw [List.mem_singleton.mp hp] at q
    rw [show b = L from q.symm, gL] at e; cases e
  · rw [List.mem_singleton.mp hq] at e
    exact (N p hp).2.1 e.symm
theorem readIn {g h : Heap} {L l : Addr} {o : Obj} {m : Str → Option Value} {led : List (Addr × Obj)} {env : Env} (F : Fr g L h m) (N : News g L h led) (hl : (l, o) ∈ led) (hf : env.frame = some L) (hk : env.scope.kind = .function) :
    ∃ o0, h.get? L = some o0 ∧ g.StaysIn h ∧ TI.Frs [env] [(L, o0)] ∧ (∀ p ∈ [(l, o), (L, o0)], h.get? p.1 = some p.2) ∧ (∀ p ∈ [(l, o), (L, o0)], g.get? p.1 = none) := by
  obtain ⟨o1, es, ep, hL, hLd, _⟩ := F.ns
  refine ⟨o1, hL, fun b o e => F.keep b o e, ⟨by rw [hk]; decide, hf, ⟨_, _, hLd⟩, trivial⟩, fun p hp => ?_, fun p hp => ?_⟩
  · simp only [List.mem_cons, List.not_mem_nil, or_false] at hp
    rcases hp with rfl | rfl
    · exact (N _ hl).1
    · exact hL
  · simp only [List.mem_cons, List.not_mem_nil, or_false] at hp
    rcases hp with rfl | rfl
    · exact (N _ hl).2.2
    · exact Heap.get?_none_of_le F.above
section
variable {w : World} {mean : ExcName → Option Value} {mg mb : Str → Option Value} {dp un : Nat} {gd : Option (List Code)} {base : Heap} {L : Addr} {m : Str → Option Value} {env : Env} {news : List (Addr × Obj)} {s : Shared} {E Q : Value → Shared → Prop} {xs : List Str} {t : Tok}
theorem c_readW {l : Addr} {c : Nat} {vs : List Value} {o : Int} (C : At 20 w mean mg mb dp un gd [] base base) (F : Fr base L s.heap m) (N : News base L s.heap news) (hf : env.frame = some L) (hk : env.scope.kind = .function) (hl : (l, listOf vs.toArray c) ∈ news) (hS : StrsAre vs xs) (h5 : xs.length ≤ 5) (hne : 0 < xs.length) (hx : Inc xs) (hok : ∀ x ∈ xs, PyData.strOk x = true) (hn : ∀ x ∈ xs, NmS x) (ho : 0 ≤ o ∧ o < fac xs.length)
    (hret : ∀ t h' tk, Fr base L h' m → News base L h' news → Q (.int o t) { s with heap := h', toks := tk }) :
    wpAny (model Challenge.rw_il0057_01.row.prog w) (ar (dp + 1) (un + 3) gd [env]) (call (.ref 181) [.str (wayOf xs o) t, .ref l]) Q E s := by
  obtain ⟨o0, hL, hb, F0, hN, hN0⟩ := readIn (env := env) F N hl hf hk
  have hlt : o.toNat < fac xs.length := by omega
  have hp := row_perm hlt
  have hys : ∀ y ∈ rowN xs.length o.toNat xs, NmS y := fun y hy => hn y (hp.mem_iff.mp hy)
  have hyl : (rowN xs.length o.toNat xs).length = xs.length := hp.length_eq
  have e : wayOf xs o = (fun k => joined ((rowN xs.length o.toNat xs).take k)) xs.length := by
    show joined (rowN xs.length o.toNat xs) = joined ((rowN xs.length o.toNat xs).take xs.length)
    rw [List.take_of_length_le (by omega)]
  rw [e]
  refine c_read (ys := rowN xs.length o.toNat xs) (pth := fun k => joined ((rowN xs.length o.toNat xs).take k)) rfl C.X C.T hb (by have := C.d; omega) (by have := C.u; omega) F0 hN hN0 hS h5 hne hx hok hp ?_ ?_ ?_ ?_
  · rfl
  · intro k y hky
    exact way_step hys hky
  · intro k
    exact Nat.le_trans (way_len (fun y hy => hys y (List.mem_of_mem_take hy)) (by rw [List.length_take]; omega)) (by decide)
  · intro t' h' tk K
    obtain ⟨F', N'⟩ := afterF1 F N hL K
    rw [row_rk hx hlt, show ((o.toNat : Nat) : Int) = o by omega]
    exact hret t' h' tk F' N'
theorem c_comW {l : Addr} {c : Nat} {a b : Int} {u : Tok} (C : At 20 w mean mg mb dp un gd [] base base) (F : Fr base L s.heap m) (N : News base L s.heap news) (hf : env.frame = some L) (hk : env.scope.kind = .function) (hl : (l, listOf #[.str (wayOf xs a) t, .str (wayOf xs b) u] c) ∈ news) (h5 : xs.length ≤ 5) (h0 : 0 < xs.length) (hn : ∀ x ∈ xs, NmS x) (ha : 0 ≤ a ∧ a < fac xs.length) (hb : 0 ≤ b ∧ b < fac xs.length)
    (hret : ∀ t h' tk, Fr base L h' m → News base L h' news → Q (.str (comW xs a b) t) { s with heap := h', toks := tk }) :
    wpAny (model Challenge.rw_il0057_01.row.prog w) (ar (dp + 1) (un + 3) gd [env]) (call (.ref 134) [.ref l]) Q E s := by
  have pa := row_perm (xs := xs) (n := a.toNat) (by omega)
  have pb := row_perm (xs := xs) (n := b.toNat) (by omega)
  have na : ∀ y ∈ rowN xs.length a.toNat xs, NmS y := fun y hy => hn y (pa.mem_iff.mp hy)
  have nb : ∀ y ∈ rowN xs.length b.toNat xs, NmS y := fun y hy => hn y (pb.mem_iff.mp hy)
  have la := pa.length_eq
  have lb := pb.length_eq
  have ea : rowN xs.length a.toNat xs ≠ [] := fun e => by rw [e] at la; simp at la; omega
  have eb : rowN xs.length b.toNat xs ≠ [] := fun e => by rw [e] at lb; simp at lb; omega
  refine c_common (C.less (by decide)) F hf hk (fun p hp => N p (by rw [List.mem_singleton.mp hp]; exact hl)) (Nat.le_trans (way_len na (by omega)) (by decide)) (Nat.le_trans (way_len nb (by omega)) (by decide)) (way_split na ea) (way_split nb eb) (by omega) (by omega) (way_parts na ea (by omega)) (way_parts nb eb (by omega)) (way_start na) (way_start nb) ?_
  intro t' h' tk K
  exact hret t' h' tk (Fr.after F K) (newsKeep N K)
theorem c_shaW {a b : Int} {z : Nat} {t1 t2 t3 : Tok} (C : At 20 w mean mg mb dp un gd [] base base) (F : Fr base L s.heap m) (N : News base L s.heap news) (hf : env.frame = some L) (hk : env.scope.kind = .function) (hz : xs.length = z) (h5 : xs.length ≤ 5) (hx : Inc xs) (hn : ∀ x ∈ xs, NmS x) (ha : 0 ≤ a ∧ a < fac xs.length) (hb : 0 ≤ b ∧ b < fac xs.length)
    (hret : ∀ t h' tk, Fr base L h' m → News base L h' news → Q (.str (comW xs a b) t) { s with heap := h', toks := tk }) :
    wpAny (model Challenge.rw_il0057_01.row.prog w) (ar (dp + 1) (un + 3) gd [env]) (call (.ref 188) [.str (wayOf xs a) t, .int a t1, .int b t2, .int z t3]) Q E s := by
  subst hz
  obtain ⟨a, rfl⟩ := Int.eq_ofNat_of_zero_le ha.1
  obtain ⟨b, rfl⟩ := Int.eq_ofNat_of_zero_le hb.1
  have ha' : a < fac xs.length := by omega
  have hb' : b < fac xs.length := by omega
  have pa := row_perm ha'
  have na : ∀ y ∈ rowN xs.length a xs, NmS y := fun y hy => hn y (pa.mem_iff.mp hy)
  have la := pa.length_eq
  obtain ⟨g, hg, h1, h2, h3⟩ := way_com hx hn ha' hb'
  have e : wayOf xs (a : Int) = (fun i => joined ((rowN xs.length a xs).take (xs.length - i))) 0 := by
    show joined (rowN xs.length (a : Int).toNat xs) = joined ((rowN xs.length a xs).take (xs.length - 0))
    rw [Int.toNat_natCast, Nat.sub_zero]
    rw [List.take_of_length_le (by omega)]
  rw [e]
  refine c_shared (rs := fun i => joined ((rowN xs.length a xs).take (xs.length - i))) (g := g) (At.less (At.push C F hf hk) (by decide)) h5 hg h1 h2 ?_ ?_ ?_
  · intro i hi
    show headOf (joined ((rowN xs.length a xs).take (xs.length - i))) = joined ((rowN xs.length a xs).take (xs.length - (i + 1)))
    have e2 : xs.length - i = xs.length - (i + 1) + 1 := by omega
    rw [e2]
    exact (way_step na (List.getElem?_eq_getElem (by omega))).1
  · intro i
    exact Nat.le_trans (way_len (fun y hy => na y (List.mem_of_mem_take hy)) (by rw [List.length_take]; omega)) (by decide)
  · intro t' h' tk K
    rw [← h3]
    exact hret t' h' tk (Fr.after F K) (newsKeep N K)
end
end Mine
end
section
open PySem PySem.W PyProof.Rows PySem.Calls
set_option Elab.async false
set_option maxRecDepth 100000
set_option maxHeartbeats 8000000
namespace Mine
local macro_rules | `(tactic| k_qdec) => `(tactic| (rw [vw_fast]; decide +kernel))
theorem ne_self {x : Str} (h : (x != x) = true) : False := by simp at h
theorem zpos {z : Nat} (h : z = 3 ∨ z = 4 ∨ z = 5) : 0 < z := by omega
theorem i63 {i : Nat} (h : i < 3) : (i : Int) < 2 ^ 63 := by omega
theorem start : PySem.Challenge.rw_il0057_01.Holds := hd rfl rfl rfl (by
  k_with_none
  k_with "mine_pre" => (
      (have BQ := At.B (by assumption)); (have XQ := At.X (by assumption)); (have TQ := At.T (by assumption)); (have lQ := At.law (by assumption))
      revert XQ lQ; k_fill; intro XQ lQ; clear lQ
      refine wpAny_call ?_)
  k_with "mine_post" => (
      (case C => assumption); (case ho => k_dflt k_is); (case hcd => k_dflt k_is); (case hb => exact rfl); (case hl => exact locs rfl); (case c2 => exact rfl); (case c3 => exact rfl); (case c4 => exact rfl); (case c5 => decide)
      intro LQ1 h₁Q FQ1 NQ1
      (try dsimp only [List.reverse_cons, List.reverse_nil, List.nil_append, List.cons_append] at FQ1)
      (try dsimp only)
      (try k_fold))
  k_with "mine_postC" => (
      (case C => assumption); (case ho => k_dflt k_is); (case hcd => k_dflt k_is); (case hb => exact rfl); (case hl => exact rfl); (case hnd => decide +kernel); (case c2 => exact rfl); (case c3 => exact rfl); (case c4 => exact rfl)
      intro LQ1 h₁Q tkQ1 cellsQ1 FQ1 NQ1 YQ1
      k_cells YQ1
      (try simp only [List.cons_append, List.nil_append] at NQ1)
      (try dsimp only)
      (try k_fold))
  k_with "mine_preL" => (
      (have BQ := At.B (by assumption)); (have XQ := At.X (by assumption)); (have TQ := At.T (by assumption)); (have lQ := At.law (by assumption))
      revert XQ lQ; k_fill; intro XQ lQ; clear lQ
      refine wpAny_call ?_)
  k_with "mine_postL" => (
      (case C => assumption); (case hN => assumption); (case ho => k_dflt k_is); (case hcd => k_dflt k_is); (case hb => exact rfl); (case hl => exact locs rfl); (case c2 => exact rfl); (case c3 => exact rfl); (case c4 => exact rfl); (case c5 => decide)
      intro LQ1 h₁Q FQ1 NQ1 l1Q1
      k_lt l1Q1
      (try dsimp only [List.reverse_cons, List.reverse_nil, List.nil_append, List.cons_append] at FQ1)
      generalize hid _ _ = gQ at *
      (try dsimp only)
      (try k_fold))
  k_with "mine_postLC" => (
      (case C => assumption); (case hN => assumption); (case ho => k_dflt k_is); (case hcd => k_dflt k_is); (case hb => exact rfl); (case hl => exact rfl); (case hnd => decide +kernel); (case c2 => exact rfl); (case c3 => exact rfl); (case c4 => exact rfl)
      intro LQ1 h₁Q tkQ1 cellsQ1 FQ1 NQ1 YQ1 l1Q1
      k_lt l1Q1
      k_cells YQ1
      (try simp only [List.cons_append, List.nil_append] at NQ1)
      generalize hid _ _ = gQ at *
      (try dsimp only)
      (try k_fold))
  k_with "mine_room" => (refine At.less (At.push (by assumption) (by k_asm) rfl rfl) (by decide))
  k_with "mine_back" => (intro hQ1 tkQ1 hkQ1; (rename Fr _ _ _ _ => F9Q); (rename News _ _ _ _ => N9Q); (have FQ1 := Fr.after F9Q hkQ1); (have NQ1 := newsKeep N9Q hkQ1); clear hkQ1; (try k_sweep); (try dsimp only))
  k_with "call ref" => (k_here; (with_reducible show wpAny _ _ (call (Value.ref 94) [Value.str _ _]) _ _ _); k_dflt (refine' c_fspath ?C ?_; (case C => walk_at "mine_room"); k_whole); intro tQ1; walk_at "mine_back")
  k_with "call ref" => (k_here; (with_reducible show wpAny _ _ (call (Value.ref 108) [Value.str _ _]) _ _ _); k_dflt (refine' c_get_sep ?C ?_; (case C => walk_at "mine_room"); k_whole); intro tQ1; walk_at "mine_back")
  k_with "CompSrc" => refine Hold.out ?_
  k_with "CompEnd" => refine Hold.out ?_
  k_with "exec For Name Call cons nil" => refine Hold.out ?_
  k_with "call builtin:sorted" => refine Hold.out ?_
  k_with "call builtin:bytes.decode" => refine Hold.out ?_
  k_with "compareOp NotEq ref ref" => refine Hold.out ?_
  k_with "pyIter ref" => refine Hold.out ?_
  k_with "subscriptTail Name Name ref int" => (k_here; (with_reducible show wpAny _ _ (subscriptTail _ _ (Value.ref _) (Value.int _ _)) _ _ _); (with_unfolding_all refine' itemAt ?k1 ?k2 ?k3 ?k4 ?_ ?k6; (case k1 => exact lstAt (by k_asm) (by k_mem)); (case k4 => assumption); (case k2 => assumption); (case k3 => assumption); (case k6 => with_unfolding_all rfl); k_whole))
  k_with "call ref" => refine Hold.out ?_
  k_go0
  all_goals try k_fold
  k_steps
  (rename Shared => s1)
  (rename World => w0)
  (rename IntsAre _ _ => hI0)
  (rename Top _ _ _ _ _ _ => hT0)
  (rename Below _ _ _ _ => K0)
  (rename Frag.In _ _ => KX)
  have hC : At 20 w0 _ _ _ callerA.depth callerA.units callerA.guards [] s1.heap s1.heap := ⟨rfl, K0, KX, hT0, by decide, by decide⟩
  (rename List Int => ns0)
  generalize hwh : List.sum ns0 = wh at *
  obtain ⟨z, hz, hz3⟩ := size_of ns0.length
  generalize hsz : 3 + (ns0.length : Int).fmod 3 = zz at *
  subst hz
  have hz5 : z ≤ 5 := z5 hz3
  refine Hold.into ?_
  (rename Fr _ _ _ _ => F9); (rename News _ _ _ _ => N9); (rename IsRange _ _ _ _ _ _ _ _ => R9)
  refine LCg.CompSrc.range (n := z) rfl F9 N9 R9 (rngOf hz5).1 (rngOf hz5).2 (z5s hz5) fun gg => ?_
  clear F9 N9
  refine crU (fun i zs => IntsAre zs (vals wh i)) IntsAre.nil ?turn1 ?fin1
  case turn1 =>
    intro j v It oI C oC Dc m₂ zs h tk E' hj hv hzs hC hx' Fc Nc off nec
    obtain ⟨tj, rfl⟩ := hv
    have off0 := off
    (try simp only [LCg.Off3, and_true] at off)
    rw [Int.zero_add] at hx'
    k_steps
    refine Hold.into ?_
    (rename Fr _ _ _ _ => F9); (rename News _ _ _ _ => N9)
    refine LCg.CompEnd.intro F9 N9 _ (fun p hp => hp) off0 trivial ⟨rfl, ?_⟩
    exact vals_snoc hzs rfl
  case fin1 =>
    intro zs hzs
    k_steps
    refine Hold.into ?_
    (rename Fr _ _ _ _ => F3); (rename News _ _ _ _ => N3)
    refine sortKey (At.less hC (by decide)) F3 rfl rfl N3 (List.mem_cons_self ..) hzs (by rw [vals_len]; exact hz3) (fun x hx => by have := vals_bd hz5 x hx; omega) (vals_nodup hz5) ?_
    intro D c' vs ns h' tk F4 N4 l1 hI4 hp4 ho4
    clear F3 N3
    k_lt l1
    have hnb : ∀ x ∈ ns, 14 ≤ x ∧ x < 454 := fun x hx => vals_bd hz5 x (hp4.mem_iff.mp hx)
    have hvl : vs.length = z := by rw [hI4.length, hp4.length_eq, vals_len]
    k_steps
    refine Hold.into ?_
    (rename Fr _ _ _ _ => F9); (rename News _ _ _ _ => N9)
    refine LCg.CompSrc.ledger (its := vs.toArray) (k := c') rfl F9 N9 (List.mem_cons_self ..) (by rw [List.size_toArray, hvl]; exact z5s hz5) fun gg => ?_
    clear F9 N9
    refine crU (fun i zs => StrsAre zs ((ns.take i).map apS)) StrsAre.nil ?turn2 ?fin2
    case turn2 =>
      intro j v It oI C oC Dc m₂ zs h tk E' hj hv hzs hx hx' Fc Nc off nec
      obtain ⟨x, tx, hnj, rfl⟩ := ints_get hI4 (show vs[j]? = some v by simpa using hv)
      have hxb := hnb x (List.mem_of_getElem? hnj)
      have off0 := off
      (try simp only [LCg.Off3, and_true] at off)
      k_steps
      refine Hold.into ?_
      (rename Fr _ _ _ _ => F9); (rename News _ _ _ _ => N9)
      refine c_ap (a := x) (At.less (At.push hC F9 rfl rfl) (by decide)) (signed (by omega)) (by omega) (by omega) ?_
      intro t' h' tk' hk'
      (have F' := Fr.after F9 hk'); (have N' := newsKeep N9 hk'); clear hk' F9 N9
      k_steps
      refine Hold.into ?_
      refine asc_ap (a := x) (by omega) (by omega) ?_
      intro t1' k1'
      k_steps
      refine Hold.into ?_
      refine LCg.CompEnd.intro F' N' _ (fun p hp => hp) off0 (.inr ⟨_, List.mem_cons_self .., rfl, _, rfl⟩) ⟨rfl, ?_⟩
      exact names_snoc hzs hnj
    case fin2 =>
      intro zs2 hzs2
      rw [List.size_toArray, hI4.length, List.take_length] at hzs2
      have hzs2l : zs2.length = z := by rw [hzs2.length, List.length_map, hp4.length_eq, vals_len]
      k_steps
      refine Hold.into ?_
      (rename Fr _ _ _ _ => F9); (rename News _ _ _ _ => N9); (rename IsRange _ _ _ _ _ _ _ _ => R9)
      refine LCg.CompSrc.range (n := 3) rfl F9 N9 R9 (rngOf (n := 3) (by decide)).1 (rngOf (n := 3) (by decide)).2 (by decide) fun gg3 => ?_
      clear F9 N9
      refine crU (fun i zs => OrdsAre z i zs) OrdsAre.nil ?turn3 ?fin3
      case turn3 =>
        intro j v It oI C oC Dc m₂ zs3 h tk E' hj hv hzs3 hx hx' Fc Nc off nec
        obtain ⟨tj, rfl⟩ := hv
        have off0 := off
        (try simp only [LCg.Off3, and_true] at off)
        rw [Int.zero_add] at hx'
        k_steps
        (rename Fr _ _ _ _ => F9); (rename News _ _ _ _ => N9)
        dsimp only at N9
        refine LSm.sum_ints F9 N9 rfl (lstAt N9 (List.mem_cons_self ..)) (IntsAre.pick hI0 _ _ _) ?_
        intro h1' tk1' t1' F10 N10
        clear F9 N9
        k_steps
        refine Hold.into ?_
        refine c_ordersZ (z := (z : Int)) (At.less (At.push hC F10 rfl rfl) (by decide)) (Int.natCast_nonneg z) (by omega) ?_
        intro t' h' tk' hf0 hf1 hk'
        (have F' := Fr.after F10 hk'); (have N' := newsKeep N10 hk'); clear hk' F10 N10
        have hfz : facZ (z : Int) ≠ 0 := Int.ne_of_gt hf0
        k_steps
        refine Hold.into ?_
        refine LCg.CompEnd.intro F' N' _ (fun p hp => List.mem_cons_of_mem _ hp) off0 trivial ⟨rfl, ?_⟩
        exact hzs3.snoc
      case fin3 =>
        intro zs3 hzs3
        obtain ⟨os, hos, hol, hob⟩ := hzs3
        have hosl : zs3.length = 3 := by rw [hos.length, hol]
        k_steps
        refine Hold.into ?_
        (rename Fr _ _ _ _ => F9); (rename News _ _ _ _ => N9)
        refine LCg.CompSrc.ledger (its := zs3.toArray) (k := zs3.length) rfl F9 N9 (List.mem_cons_self ..) (by rw [List.size_toArray, hosl]; decide) fun gg4 => ?_
        clear F9 N9
        refine crU (fun i zs => StrsAre zs ((os.take i).map (wayOf (ns.map apS)))) StrsAre.nil ?turn4 ?fin4
        case turn4 =>
          intro j v It oI C oC Dc m₂ zs4 h tk E' hj hv hzs4 hx hx' Fc Nc off nec
          obtain ⟨x, tx, hnj, rfl⟩ := ints_get hos (show zs3[j]? = some v by simpa using hv)
          have hxb := hob x (List.mem_of_getElem? hnj)
          have off0 := off
          (try simp only [LCg.Off3, and_true] at off)
          k_steps
          refine Hold.into ?_
          (rename Fr _ _ _ _ => F9); (rename News _ _ _ _ => N9)
          refine c_row (xs := ns.map apS) (n := x) (c := zs2.length) (At.less hC (by decide)) F9 rfl rfl (fun p hp => N9 p (by rw [List.mem_singleton.mp hp]; k_mem)) hzs2 (by rw [← hzs2.length, hzs2l]; exact hz5) hxb.1 (by rw [← hzs2.length, hzs2l]; exact hxb.2) ?_
          intro D5 rs c5 h5 tk5 hk5 hn5 hrs
          (have F' := Fr.after F9 hk5); (have ne5 := neN hn5 (List.mem_cons_self ..) N9); (have N' := newsMore F9 N9 hk5 hn5); clear F9 N9 hk5 hn5
          (simp only [NeN, and_true] at ne5)
          (simp only [List.cons_append, List.nil_append] at N')
          have hrl : rs.length = z := by rw [hrs.length, rowN_len, ← hzs2.length, hzs2l]
          k_steps
          refine star_seq (ws := rs) F' N' (List.mem_cons_self ..) rfl rfl (.inl rfl) rfl (by rw [List.size_toArray, hrl]; exact z5s hz5) ?_
          intro h6 F6 N6
          clear F' N'
          k_steps
          refine Hold.into ?_
          (try simp only [List.append_nil])
          refine c_join (vs := rs) (At.less (At.push hC F6 rfl rfl) (by decide)) hrs (by rw [hrl]; exact hz3) row_short ?_
          intro t' h' tk' hk'
          (have F' := Fr.after F6 hk'); (have N' := newsKeep N6 hk'); clear hk' F6 N6
          k_steps
          refine Hold.into ?_
          refine LCg.CompEnd.intro F' N' _ (fun p hp => List.mem_cons_of_mem _ hp) off0 (.inr ⟨_, List.mem_cons_self .., rfl, _, rfl⟩) ⟨rfl, ?_⟩
          exact ways_snoc hzs4 hnj
        case fin4 =>
          intro zs4 hzs4
          rw [List.size_toArray, hosl, ← hol, List.take_length] at hzs4
          k_steps
          refine Hold.into ?_
          (rename Fr _ _ _ _ => F3); (rename News _ _ _ _ => N3)
          refine sortStrs F3 N3 (by k_mem) hzs2 (by rw [hzs2l]; exact Nat.lt_of_le_of_lt hz5 (by decide)) ?_
          intro S2 cS2 us2 ss2 h8 F8 N8 lS2 hU2 hperm2 hsort2
          have hinc := names_inc hnb ho4
          have hss2 : ss2 = ns.map apS := inc_same hperm2 (inc_of_sorted hsort2 (hperm2.nodup_iff.mpr (inc_nodup hinc))) hinc
          subst hss2
          have hokN : ∀ x ∈ ns.map apS, PyData.strOk x = true := names_ok hnb
          clear F3 N3
          k_steps
          refine Hold.into ?_
          refine neStrs (lstAt N8 (show (S2, _) ∈ _ by k_mem)) (lstAt N8 (by k_mem)) hU2 hzs2 hokN hokN (by show callerA.units + 3 + 64 < cLine; decide) ?_
          rw [decide_eq_true rfl, Bool.not_true]
          k_steps
          refine Hold.into ?_
          refine wpAny_For ?_
          k_steps
          refine Hold.into ?_
          (rename Fr _ _ _ _ => FL); (rename News _ _ _ _ => NL); (rename IsRange _ _ _ _ _ _ _ _ => RL)
          have hnm := @names_nm ns
          have hxl : (ns.map apS).length = z := by rw [← hzs2.length, hzs2l]
          generalize ns.map apS = xs at *
          subst hxl
          refine forRange (n := 3) (KJ (fun _ : Unit => _) (fun _ => []) (fun _ => True) [Str.ofString "one", Str.ofString "two", Str.ofString "told"] _ (fun _ _ => True)) rfl RL (rngOf (n := 3) (by decide)).1 (rngOf (n := 3) (by decide)).2 FL NL (kj_start () trivial (by simp) trivial) ?turn ?done (by passes_own)
          case turn =>
            intro i t1 m₁ news₁ h tk I oI hi hlI hJ F1 N1 ne1
            obtain ⟨c', e', _, _, F2⟩ := kj_open hJ F1
            subst e'
            simp only [kstB] at F2
            clear F1 hJ FL NL
            replace F2 : Fr s1.heap s1.heap.objs.size _ _ := F2
            replace N1 : News s1.heap s1.heap.objs.size _ _ := N1
            k_lt hlI
            rw [Int.zero_add]
            obtain ⟨o1, hob1, hoi1, hwi1⟩ := ord_at (xs := xs) hob (show i < os.length by rw [hol]; exact hi)
            have hi63 : (i : Int) < 2 ^ 63 := i63 hi
            have hi0 : (0 : Int) ≤ i := Int.natCast_nonneg i
            k_steps
            refine Hold.into ?_
            (rename Fr _ _ _ _ => F3); (rename News _ _ _ _ => N3)
            rw [hwi1]
            refine c_readW (c := zs2.length) hC F3 N3 (by exact rfl) (by exact rfl) (.tail _ (.tail _ (.tail _ (.tail _ (.head _))))) hzs2 hz5 (zpos hz3) hinc hokN hnm hob1 ?_
            intro t2 h2 tk2 F4 N4
            clear F3 N3
            k_steps
            · exact absurd hoi1.symm (by assumption)
            refine Hold.into ?_
            refine wpAny_For ?_
            k_steps
            refine Hold.into ?_
            (rename Fr _ _ _ _ => FM); (rename News _ _ _ _ => NM); (rename IsRange _ _ _ _ _ _ _ _ => RM)
            refine forRange (n := i + 1) (KJ (fun _ : Unit => _) (fun _ => []) (fun _ => True) [Str.ofString "two", Str.ofString "told"] _ (fun _ _ => True)) rfl RM (rngS hi).1 (rngS hi).2 FM NM (kj_start () trivial (by simp) trivial) ?turnI ?doneI (by passes_own)
            case turnI =>
              intro j t1' m₂ news₂ h' tk' I2 oI2 hj hlI2 hJ F1 N1 ne2
              obtain ⟨c2', e', _, _, F2⟩ := kj_open hJ F1
              subst e'
              simp only [kstB] at F2
              clear F1 hJ FM NM
              replace F2 : Fr s1.heap s1.heap.objs.size _ _ := F2
              replace N1 : News s1.heap s1.heap.objs.size _ _ := N1
              k_lt hlI2
              rw [Int.zero_add]
              obtain ⟨o2, hob2, hoi2, hwi2⟩ := ord_at (xs := xs) (i := j) hob (by rw [hol]; exact Nat.lt_of_lt_of_le hj hi)
              have hj63 : (j : Int) < 2 ^ 63 := i63 (Nat.lt_of_lt_of_le hj hi)
              have hj0 : (0 : Int) ≤ j := Int.natCast_nonneg j
              k_steps
              · refine Hold.into ?_
                (rename Fr _ _ _ _ => F3); (rename News _ _ _ _ => N3)
                have hT : told o1 o2 = -1 := if_pos (by rw [← hoi1, ← hoi2]; assumption)
                rw [hwi1, hwi2]
                refine c_three (At.less (At.push hC F3 rfl rfl) (by decide)) ?_
                intro t3 h3 tk3 K3
                rw [way_cmp hinc hnm hob1 hob2, hT]
                (have F4 := Fr.after F3 K3); (have N4 := newsKeep N3 K3); clear K3 F3 N3
                k_steps
                refine Hold.into ?_
                (rename Fr _ _ _ _ => F5); (rename News _ _ _ _ => N5)
                simp only [hwi1, hwi2] at N5
                refine c_comW (c := 0) (xs := xs) (a := o1) (b := o2) hC F5 N5 rfl rfl (List.mem_cons_self ..) hz5 (zpos hz3) hnm hob1 hob2 ?_
                intro t6 h6 tk6 F6 N6
                clear F5 N5
                k_steps
                refine Hold.into ?_
                rw [hwi1, hoi1, hoi2]
                refine c_shaW (z := xs.length) hC F6 N6 rfl rfl rfl hz5 hinc hnm hob1 hob2 ?_
                intro t8 h8' tk8 F8 N8
                clear F6 N6
                k_steps
                · exact (ne_self (by assumption)).elim
                refine kj_end () F8 N8 (.tail _ (.head _)) (fun p hp => .tail _ (.tail _ hp)) ne2 (fun q hq => absurd hq (by simp)) trivial (by simp) ?zr2 trivial
                ksw_same
              · refine Hold.into ?_
                (rename Fr _ _ _ _ => F3); (rename News _ _ _ _ => N3)
                have hT : told o1 o2 = (if (os.getD (i : Int).toNat 0 != os.getD (j : Int).toNat 0) = true then 1 else 0) := told_else (by assumption) hoi1 hoi2
                rw [hwi1, hwi2]
                refine c_three (At.less (At.push hC F3 rfl rfl) (by decide)) ?_
                intro t3 h3 tk3 K3
                rw [way_cmp hinc hnm hob1 hob2, hT]
                (have F4 := Fr.after F3 K3); (have N4 := newsKeep N3 K3); clear K3 F3 N3
                k_steps
                · exact absurd rfl (by assumption)
                refine Hold.into ?_
                (rename Fr _ _ _ _ => F5); (rename News _ _ _ _ => N5)
                simp only [hwi1, hwi2] at N5
                refine c_comW (c := 0) (xs := xs) (a := o1) (b := o2) hC F5 N5 rfl rfl (List.mem_cons_self ..) hz5 (zpos hz3) hnm hob1 hob2 ?_
                intro t6 h6 tk6 F6 N6
                clear F5 N5
                k_steps
                refine Hold.into ?_
                rw [hwi1, hoi1, hoi2]
                refine c_shaW (z := xs.length) hC F6 N6 rfl rfl rfl hz5 hinc hnm hob1 hob2 ?_
                intro t8 h8' tk8 F8 N8
                clear F6 N6
                k_steps
                · exact (ne_self (by assumption)).elim
                refine kj_end () F8 N8 (.tail _ (.head _)) (fun p hp => .tail _ (.tail _ hp)) ne2 (fun q hq => absurd hq (by simp)) trivial (by simp) ?zr3 trivial
                ksw_same
            case doneI =>
              intro m₂ news₂ h' tk' hJ F1 N1
              obtain ⟨c2', e', _, _, F2⟩ := kj_open hJ F1
              subst e'
              simp only [kstB] at F2
              clear F1 hJ FM NM
              replace F2 : Fr s1.heap s1.heap.objs.size _ _ := F2
              replace N1 : News s1.heap s1.heap.objs.size _ _ := N1
              k_steps
              refine kj_end () F2 N1 (List.mem_cons_self ..) (fun p hp => List.mem_cons_of_mem _ hp) ne1 (fun q hq => absurd hq (by simp)) trivial (by simp) ?zr1 trivial
              ksw_same
          case done =>
            intro m₁ news₁ h tk hJ F1 N1
            obtain ⟨c', e', _, _, F2⟩ := kj_open hJ F1
            subst e'
            simp only [kstB] at F2
            clear F1 hJ FL NL
            replace F2 : Fr s1.heap s1.heap.objs.size _ _ := F2
            replace N1 : News s1.heap s1.heap.objs.size _ _ := N1
            k_steps)
end Mine
end
theorem PySem.Challenge.cw_il0057_01_holds : PySem.Challenge.rw_il0057_01.Holds :=
  Mine.start
