import PyProof.Rows.All
import Wide.All
import OpenK.AllK
import Wide.FinOn
import PySem.Challenge.RW_jj0020_01
open PySem PySem.W PyProof.Rows PySem.Calls
set_option Elab.async false
set_option maxRecDepth 100000
set_option maxHeartbeats 0
set_option linter.all false
namespace Mine
/-! ## the head: the top's run, by one check -/
theorem end_through (t : Thread) : (through t = true ∧ ∃ f, endAt 0 t = some f) ∨ (through t = false ∧ endAt 0 t = none) := by
  obtain ⟨cur, code, pos, stack⟩ := t
  cases stack with
  | cons a l => exact .inr ⟨rfl, by simp [endAt]⟩
  | nil => cases cur with
    | pure x => cases x with
      | done f => exact .inl ⟨rfl, f, rfl⟩
      | again c => exact .inr ⟨rfl, rfl⟩
    | _ => exact .inr ⟨rfl, rfl⟩
theorem topRun_of_seg {tb : String → Option Builtin} {p : Program} {w : World} {n₀ : Nat} {ann : Option Value} : ∀ {n : Nat} {s s' : Shared} {t : Thread} {f : Flow} {c : Code} {q : Pos},
    segRun tb p w n₀ ann 0 n s t = some (f, s', c, q) → topRun tb p w n₀ ann n s t = some s'
  | 0, _, _, _, _, _, _, h => by cases h
  | n + 1, s, s', t, f, c, q, h => by
    unfold segRun at h
    unfold topRun
    rcases end_through t with ⟨ht, x, he⟩ | ⟨ht, he⟩
    · rw [he] at h
      rw [ht]
      cases h; rfl
    · rw [he] at h
      rw [ht]
      cases hk : stepOk n₀ ann t with
      | false => rw [hk] at h; cases h
      | true =>
        rw [hk] at h
        cases hs : step (denote tb) p w s t with
        | halt o s₂ => rw [hs] at h; cases h
        | go s₂ t₂ => rw [hs] at h; exact topRun_of_seg h

theorem left_one {p q : Program} {loose : List Str} {Xt : Shared → Bool} {α : Type} {Yf : Shared → α} {Ya : World → α} {N M m₀ k₀ : Nat} {ann : Option Value} {H₀ : Params → Heap} {gs₀ : Array GenState} {d₀ : Drawn} {T₀ : World → OsState → SharedT} {mods : List Str} (hm : mods = importedModules p.main.body)
    (open_ : ∀ w : World, (fencedOpening treeTable p w N).map (fun s => (s.heap, s.gens, s.drawn, s.toks)) = some (H₀ w.params, gs₀, d₀, k₀))
    (size : ∀ w : World, ((H₀ w.params).isNs mainGlobals && gs₀.size == 0, (H₀ w.params).objs.size, (H₀ w.params).nsMap mainGlobals "__annotations__") = (true, m₀, ann))
    (hT : ∀ w os, (T₀ w os).abs = ⟨H₀ w.params, gs₀, d₀, k₀, os⟩) (le : Nat.ble M N = true)
    (run : ∀ (w : World) (os : OsState), (segRunT treeTable p w m₀ ann 0 M (T₀ w os) (topStub p)).map (fun r =>
        ((staticsOk mods (H₀ w.params) r.2.1.abs.heap && namesBound p r.2.1.abs.heap && gensDone r.2.1.abs && laidKept (H₀ w.params) r.2.1.abs.heap),
          openSeen q loose mods Xt true r.2.1.abs, Yf r.2.1.abs)) = some (true, openGood q loose, Ya w)) : LeftO p q loose Xt Yf Ya N := fun w => by
  subst hm
  obtain ⟨⟨h, gs, d, k, os⟩, e, e'⟩ := Option.map_eq_some_iff.mp (open_ w)
  obtain ⟨rfl, rfl, rfl, rfl⟩ : h = H₀ w.params ∧ gs = gs₀ ∧ d = d₀ ∧ k = k₀ := by simpa using e'
  obtain ⟨z1, z2, z3⟩ : _ ∧ _ ∧ _ := by simpa only [Prod.mk.injEq] using size w
  obtain ⟨⟨f, s₁, c, q'⟩, r1, r2⟩ := Option.map_eq_some_iff.mp (run w os)
  obtain ⟨l1, l2, l3⟩ : _ ∧ _ ∧ _ := by simpa only [Prod.mk.injEq] using r2
  have r := topRun_of_seg (segRun_of r1)
  rw [hT] at r
  replace r := topRun_mono (N - M) _ _ _ _ r
  rw [show M + (N - M) = N by have := Nat.le_of_ble_eq_true le; omega] at r
  have t : topFrom treeTable p w N ⟨H₀ w.params, gs, d, k, os⟩ = some s₁.abs := by
    unfold topFrom
    dsimp only
    rw [z1, z2, z3, r]
    show (match staticsOk (importedModules p.main.body) (H₀ w.params) s₁.abs.heap && namesBound p s₁.abs.heap && gensDone s₁.abs && laidKept (H₀ w.params) s₁.abs.heap with | true => _ | false => _) = _
    rw [l1]
  unfold openEnds
  rw [e]
  show (topFrom treeTable p w N _).map _ = _
  rw [t]
  exact congrArg some (Prod.ext l2 l3)
end Mine

namespace Mine
noncomputable abbrev PW : Program := PySem.Challenge.pw_jj0020_01
noncomputable def partsOfDef : Stmt → Arguments × List Stmt × Scope
  | .FunctionDef _ a b _ _ _ s _ _ _ => (a, b, s)
  | _ => (⟨[], [], none, [], [], none, []⟩, [], { kind := .module, names := [], isGenerator := false, isCoroutine := false, more := [] })
noncomputable def fdTop (i : Nat) : Arguments × List Stmt × Scope := match PW.main.body[i]? with
  | some st => partsOfDef st
  | none => partsOfDef (.Pass default)
noncomputable def fdIn (i j : Nat) : Arguments × List Stmt × Scope := match PW.main.body[i]? with
  | some (.ClassDef _ _ _ b ..) => (match b[j]? with | some st => partsOfDef st | none => partsOfDef (.Pass default))
  | _ => partsOfDef (.Pass default)
noncomputable abbrev lit {α : Type} (x b : α) (_ : x = b) : α := b
noncomputable abbrev f2m0P : Arguments := lit (fdIn 2 0).1 _ (by conv => lhs; whnf)
noncomputable abbrev f2m0B : List Stmt := lit (fdIn 2 0).2.1 _ (by conv => lhs; whnf)
noncomputable abbrev f2m0S : Scope := lit (fdIn 2 0).2.2 _ (by conv => lhs; whnf)
noncomputable abbrev f7P : Arguments := lit (fdTop 7).1 _ (by conv => lhs; whnf)
noncomputable abbrev f7B : List Stmt := lit (fdTop 7).2.1 _ (by conv => lhs; whnf)
noncomputable abbrev f7S : Scope := lit (fdTop 7).2.2 _ (by conv => lhs; whnf)
noncomputable abbrev f8P : Arguments := lit (fdTop 8).1 _ (by conv => lhs; whnf)
noncomputable abbrev f8B : List Stmt := lit (fdTop 8).2.1 _ (by conv => lhs; whnf)
noncomputable abbrev f8S : Scope := lit (fdTop 8).2.2 _ (by conv => lhs; whnf)
noncomputable abbrev f9P : Arguments := lit (fdTop 9).1 _ (by conv => lhs; whnf)
noncomputable abbrev f9B : List Stmt := lit (fdTop 9).2.1 _ (by conv => lhs; whnf)
noncomputable abbrev f9S : Scope := lit (fdTop 9).2.2 _ (by conv => lhs; whnf)
noncomputable abbrev f11P : Arguments := lit (fdTop 11).1 _ (by conv => lhs; whnf)
noncomputable abbrev f11B : List Stmt := lit (fdTop 11).2.1 _ (by conv => lhs; whnf)
noncomputable abbrev f11S : Scope := lit (fdTop 11).2.2 _ (by conv => lhs; whnf)
noncomputable abbrev f12P : Arguments := lit (fdTop 12).1 _ (by conv => lhs; whnf)
noncomputable abbrev f12B : List Stmt := lit (fdTop 12).2.1 _ (by conv => lhs; whnf)
noncomputable abbrev f12S : Scope := lit (fdTop 12).2.2 _ (by conv => lhs; whnf)
noncomputable abbrev f14m2P : Arguments := lit (fdIn 14 2).1 _ (by conv => lhs; whnf)
noncomputable abbrev f14m2B : List Stmt := lit (fdIn 14 2).2.1 _ (by conv => lhs; whnf)
noncomputable abbrev f14m2S : Scope := lit (fdIn 14 2).2.2 _ (by conv => lhs; whnf)
noncomputable abbrev f14m3P : Arguments := lit (fdIn 14 3).1 _ (by conv => lhs; whnf)
noncomputable abbrev f14m3B : List Stmt := lit (fdIn 14 3).2.1 _ (by conv => lhs; whnf)
noncomputable abbrev f14m3S : Scope := lit (fdIn 14 3).2.2 _ (by conv => lhs; whnf)
noncomputable abbrev f14m5P : Arguments := lit (fdIn 14 5).1 _ (by conv => lhs; whnf)
noncomputable abbrev f14m5B : List Stmt := lit (fdIn 14 5).2.1 _ (by conv => lhs; whnf)
noncomputable abbrev f14m5S : Scope := lit (fdIn 14 5).2.2 _ (by conv => lhs; whnf)
noncomputable abbrev f14m7P : Arguments := lit (fdIn 14 7).1 _ (by conv => lhs; whnf)
noncomputable abbrev f14m7B : List Stmt := lit (fdIn 14 7).2.1 _ (by conv => lhs; whnf)
noncomputable abbrev f14m7S : Scope := lit (fdIn 14 7).2.2 _ (by conv => lhs; whnf)
noncomputable abbrev f14m8P : Arguments := lit (fdIn 14 8).1 _ (by conv => lhs; whnf)
noncomputable abbrev f14m8B : List Stmt := lit (fdIn 14 8).2.1 _ (by conv => lhs; whnf)
noncomputable abbrev f14m8S : Scope := lit (fdIn 14 8).2.2 _ (by conv => lhs; whnf)
noncomputable abbrev f14m9P : Arguments := lit (fdIn 14 9).1 _ (by conv => lhs; whnf)
noncomputable abbrev f14m9B : List Stmt := lit (fdIn 14 9).2.1 _ (by conv => lhs; whnf)
noncomputable abbrev f14m9S : Scope := lit (fdIn 14 9).2.2 _ (by conv => lhs; whnf)
noncomputable abbrev f14m11P : Arguments := lit (fdIn 14 11).1 _ (by conv => lhs; whnf)
noncomputable abbrev f14m11B : List Stmt := lit (fdIn 14 11).2.1 _ (by conv => lhs; whnf)
noncomputable abbrev f14m11S : Scope := lit (fdIn 14 11).2.2 _ (by conv => lhs; whnf)
noncomputable abbrev f14m12P : Arguments := lit (fdIn 14 12).1 _ (by conv => lhs; whnf)
noncomputable abbrev f14m12B : List Stmt := lit (fdIn 14 12).2.1 _ (by conv => lhs; whnf)
noncomputable abbrev f14m12S : Scope := lit (fdIn 14 12).2.2 _ (by conv => lhs; whnf)
noncomputable abbrev f14m13P : Arguments := lit (fdIn 14 13).1 _ (by conv => lhs; whnf)
noncomputable abbrev f14m13B : List Stmt := lit (fdIn 14 13).2.1 _ (by conv => lhs; whnf)
noncomputable abbrev f14m13S : Scope := lit (fdIn 14 13).2.2 _ (by conv => lhs; whnf)
noncomputable abbrev f14m14P : Arguments := lit (fdIn 14 14).1 _ (by conv => lhs; whnf)
noncomputable abbrev f14m14B : List Stmt := lit (fdIn 14 14).2.1 _ (by conv => lhs; whnf)
noncomputable abbrev f14m14S : Scope := lit (fdIn 14 14).2.2 _ (by conv => lhs; whnf)
noncomputable abbrev f16m13P : Arguments := lit (fdIn 16 13).1 _ (by conv => lhs; whnf)
noncomputable abbrev f16m13B : List Stmt := lit (fdIn 16 13).2.1 _ (by conv => lhs; whnf)
noncomputable abbrev f16m13S : Scope := lit (fdIn 16 13).2.2 _ (by conv => lhs; whnf)
noncomputable abbrev f16m14P : Arguments := lit (fdIn 16 14).1 _ (by conv => lhs; whnf)
noncomputable abbrev f16m14B : List Stmt := lit (fdIn 16 14).2.1 _ (by conv => lhs; whnf)
noncomputable abbrev f16m14S : Scope := lit (fdIn 16 14).2.2 _ (by conv => lhs; whnf)
noncomputable abbrev f16m21P : Arguments := lit (fdIn 16 21).1 _ (by conv => lhs; whnf)
noncomputable abbrev f16m21B : List Stmt := lit (fdIn 16 21).2.1 _ (by conv => lhs; whnf)
noncomputable abbrev f16m21S : Scope := lit (fdIn 16 21).2.2 _ (by conv => lhs; whnf)
noncomputable abbrev f16m26P : Arguments := lit (fdIn 16 26).1 _ (by conv => lhs; whnf)
noncomputable abbrev f16m26B : List Stmt := lit (fdIn 16 26).2.1 _ (by conv => lhs; whnf)
noncomputable abbrev f16m26S : Scope := lit (fdIn 16 26).2.2 _ (by conv => lhs; whnf)
noncomputable abbrev f16m30P : Arguments := lit (fdIn 16 30).1 _ (by conv => lhs; whnf)
noncomputable abbrev f16m30B : List Stmt := lit (fdIn 16 30).2.1 _ (by conv => lhs; whnf)
noncomputable abbrev f16m30S : Scope := lit (fdIn 16 30).2.2 _ (by conv => lhs; whnf)
noncomputable abbrev f16m34P : Arguments := lit (fdIn 16 34).1 _ (by conv => lhs; whnf)
noncomputable abbrev f16m34B : List Stmt := lit (fdIn 16 34).2.1 _ (by conv => lhs; whnf)
noncomputable abbrev f16m34S : Scope := lit (fdIn 16 34).2.2 _ (by conv => lhs; whnf)
noncomputable abbrev f16m35P : Arguments := lit (fdIn 16 35).1 _ (by conv => lhs; whnf)
noncomputable abbrev f16m35B : List Stmt := lit (fdIn 16 35).2.1 _ (by conv => lhs; whnf)
noncomputable abbrev f16m35S : Scope := lit (fdIn 16 35).2.2 _ (by conv => lhs; whnf)
noncomputable abbrev f16m36P : Arguments := lit (fdIn 16 36).1 _ (by conv => lhs; whnf)
noncomputable abbrev f16m36B : List Stmt := lit (fdIn 16 36).2.1 _ (by conv => lhs; whnf)
noncomputable abbrev f16m36S : Scope := lit (fdIn 16 36).2.2 _ (by conv => lhs; whnf)
noncomputable abbrev f16m39P : Arguments := lit (fdIn 16 39).1 _ (by conv => lhs; whnf)
noncomputable abbrev f16m39B : List Stmt := lit (fdIn 16 39).2.1 _ (by conv => lhs; whnf)
noncomputable abbrev f16m39S : Scope := lit (fdIn 16 39).2.2 _ (by conv => lhs; whnf)
noncomputable abbrev f16m40P : Arguments := lit (fdIn 16 40).1 _ (by conv => lhs; whnf)
noncomputable abbrev f16m40B : List Stmt := lit (fdIn 16 40).2.1 _ (by conv => lhs; whnf)
noncomputable abbrev f16m40S : Scope := lit (fdIn 16 40).2.2 _ (by conv => lhs; whnf)
noncomputable abbrev f16m41P : Arguments := lit (fdIn 16 41).1 _ (by conv => lhs; whnf)
noncomputable abbrev f16m41B : List Stmt := lit (fdIn 16 41).2.1 _ (by conv => lhs; whnf)
noncomputable abbrev f16m41S : Scope := lit (fdIn 16 41).2.2 _ (by conv => lhs; whnf)
noncomputable abbrev f16m45P : Arguments := lit (fdIn 16 45).1 _ (by conv => lhs; whnf)
noncomputable abbrev f16m45B : List Stmt := lit (fdIn 16 45).2.1 _ (by conv => lhs; whnf)
noncomputable abbrev f16m45S : Scope := lit (fdIn 16 45).2.2 _ (by conv => lhs; whnf)
noncomputable abbrev f16m49P : Arguments := lit (fdIn 16 49).1 _ (by conv => lhs; whnf)
noncomputable abbrev f16m49B : List Stmt := lit (fdIn 16 49).2.1 _ (by conv => lhs; whnf)
noncomputable abbrev f16m49S : Scope := lit (fdIn 16 49).2.2 _ (by conv => lhs; whnf)
noncomputable abbrev f19P : Arguments := lit (fdTop 19).1 _ (by conv => lhs; whnf)
noncomputable abbrev f19B : List Stmt := lit (fdTop 19).2.1 _ (by conv => lhs; whnf)
noncomputable abbrev f19S : Scope := lit (fdTop 19).2.2 _ (by conv => lhs; whnf)
noncomputable abbrev f20P : Arguments := lit (fdTop 20).1 _ (by conv => lhs; whnf)
noncomputable abbrev f20B : List Stmt := lit (fdTop 20).2.1 _ (by conv => lhs; whnf)
noncomputable abbrev f20S : Scope := lit (fdTop 20).2.2 _ (by conv => lhs; whnf)
noncomputable abbrev f21P : Arguments := lit (fdTop 21).1 _ (by conv => lhs; whnf)
noncomputable abbrev f21B : List Stmt := lit (fdTop 21).2.1 _ (by conv => lhs; whnf)
noncomputable abbrev f21S : Scope := lit (fdTop 21).2.2 _ (by conv => lhs; whnf)
noncomputable abbrev f22P : Arguments := lit (fdTop 22).1 _ (by conv => lhs; whnf)
noncomputable abbrev f22B : List Stmt := lit (fdTop 22).2.1 _ (by conv => lhs; whnf)
noncomputable abbrev f22S : Scope := lit (fdTop 22).2.2 _ (by conv => lhs; whnf)
noncomputable abbrev f23P : Arguments := lit (fdTop 23).1 _ (by conv => lhs; whnf)
noncomputable abbrev f23B : List Stmt := lit (fdTop 23).2.1 _ (by conv => lhs; whnf)
noncomputable abbrev f23S : Scope := lit (fdTop 23).2.2 _ (by conv => lhs; whnf)
noncomputable abbrev f24P : Arguments := lit (fdTop 24).1 _ (by conv => lhs; whnf)
noncomputable abbrev f24B : List Stmt := lit (fdTop 24).2.1 _ (by conv => lhs; whnf)
noncomputable abbrev f24S : Scope := lit (fdTop 24).2.2 _ (by conv => lhs; whnf)
noncomputable abbrev f25P : Arguments := lit (fdTop 25).1 _ (by conv => lhs; whnf)
noncomputable abbrev f25B : List Stmt := lit (fdTop 25).2.1 _ (by conv => lhs; whnf)
noncomputable abbrev f25S : Scope := lit (fdTop 25).2.2 _ (by conv => lhs; whnf)
noncomputable abbrev f26P : Arguments := lit (fdTop 26).1 _ (by conv => lhs; whnf)
noncomputable abbrev f26B : List Stmt := lit (fdTop 26).2.1 _ (by conv => lhs; whnf)
noncomputable abbrev f26S : Scope := lit (fdTop 26).2.2 _ (by conv => lhs; whnf)
noncomputable abbrev f27P : Arguments := lit (fdTop 27).1 _ (by conv => lhs; whnf)
noncomputable abbrev f27B : List Stmt := lit (fdTop 27).2.1 _ (by conv => lhs; whnf)
noncomputable abbrev f27S : Scope := lit (fdTop 27).2.2 _ (by conv => lhs; whnf)
noncomputable def KK : Params → Frag := fun P =>
  (nat_lit 2, ⟨.none, none, .dict #[⟨PyData.keyHash P (Str.ofString "type.__subclasses__.Exception.0"), .str (Str.ofString "type.__subclasses__.Exception.0") 224, .int 41 0⟩, ⟨PyData.keyHash P (Str.ofString "type.__subclasses__.Exception.n"), .str (Str.ofString "type.__subclasses__.Exception.n") 225, .int 2 0⟩, ⟨PyData.keyHash P (Str.ofString "type.__subclasses__.Exception.1"), .str (Str.ofString "type.__subclasses__.Exception.1") 272, .int 75 0⟩] 3, #[]⟩) ::
  (nat_lit 3, ⟨.type "dict", none, .dict #[⟨PyData.keyHash P (Str.ofString "__name__"), .str (Str.ofString "__name__") 165, .str (Str.ofString "law_jj0020_01") 1111⟩, ⟨PyData.keyHash P (Str.ofString "__doc__"), .str (Str.ofString "__doc__") 166, .none⟩, ⟨PyData.keyHash P (Str.ofString "__package__"), .str (Str.ofString "__package__") 167, .none⟩, ⟨PyData.keyHash P (Str.ofString "__loader__"), .str (Str.ofString "__loader__") 168, .builtin "__main__.__loader__#opaque"⟩, ⟨PyData.keyHash P (Str.ofString "__spec__"), .str (Str.ofString "__spec__") 169, .none⟩, ⟨PyData.keyHash P (Str.ofString "__annotations__"), .str (Str.ofString "__annotations__") 170, .ref 6⟩, ⟨PyData.keyHash P (Str.ofString "__builtins__"), .str (Str.ofString "__builtins__") 171, .ref 4⟩, ⟨PyData.keyHash P (Str.ofString "__file__"), .str (Str.ofString "__file__") 173, .str (Str.ofString "/claim/cut.py") 172⟩, ⟨PyData.keyHash P (Str.ofString "__cached__"), .str (Str.ofString "__cached__") 174, .none⟩, ⟨PyData.keyHash P (Str.ofString "_wall"), .str (Str.ofString "_wall") 193, .ref 21⟩, ⟨PyData.keyHash P (Str.ofString "PyFATException"), .str (Str.ofString "PyFATException") 227, .ref 41⟩, ⟨PyData.keyHash P (Str.ofString "BrokenLFNEntryException"), .str (Str.ofString "BrokenLFNEntryException") 243, .ref 54⟩, ⟨PyData.keyHash P (Str.ofString "NotAFatEntryException"), .str (Str.ofString "NotAFatEntryException") 275, .ref 75⟩, ⟨PyData.keyHash P (Str.ofString "errno"), .str (Str.ofString "errno") 325, .ref 88⟩, ⟨PyData.keyHash P (Str.ofString "FAT_OEM_ENCODING"), .str (Str.ofString "FAT_OEM_ENCODING") 327, .str (Str.ofString "latin-1") 326⟩, ⟨PyData.keyHash P (Str.ofString "encoded"), .str (Str.ofString "encoded") 333, .ref 97⟩, ⟨PyData.keyHash P (Str.ofString "encoded_or_marked"), .str (Str.ofString "encoded_or_marked") 339, .ref 102⟩, ⟨PyData.keyHash P (Str.ofString "decoded"), .str (Str.ofString "decoded") 345, .ref 107⟩, ⟨PyData.keyHash P (Str.ofString "decoded16"), .str (Str.ofString "decoded16") 351, .ref 112⟩, ⟨PyData.keyHash P (Str.ofString "splitext"), .str (Str.ofString "splitext") 361, .ref 119⟩, ⟨PyData.keyHash P (Str.ofString "init_check"), .str (Str.ofString "init_check") 368, .ref 126⟩, ⟨PyData.keyHash P (Str.ofString "EightDotThree"), .str (Str.ofString "EightDotThree") 580, .ref 243⟩, ⟨PyData.keyHash P (Str.ofString "FATDirectoryEntry"), .str (Str.ofString "FATDirectoryEntry") 993, .ref 533⟩, ⟨PyData.keyHash P (Str.ofString "FATLongDirectoryEntry"), .str (Str.ofString "FATLongDirectoryEntry") 1110, .ref 608⟩, ⟨PyData.keyHash P (Str.ofString "_law_heads"), .str (Str.ofString "_law_heads") 1118, .ref 619⟩, ⟨PyData.keyHash P (Str.ofString "_law_row"), .str (Str.ofString "_law_row") 1124, .ref 626⟩, ⟨PyData.keyHash P (Str.ofString "_law_written"), .str (Str.ofString "_law_written") 1133, .ref 633⟩, ⟨PyData.keyHash P (Str.ofString "_law_plain"), .str (Str.ofString "_law_plain") 1146, .ref 640⟩, ⟨PyData.keyHash P (Str.ofString "_law_octets"), .str (Str.ofString "_law_octets") 1152, .ref 645⟩, ⟨PyData.keyHash P (Str.ofString "_law_record"), .str (Str.ofString "_law_record") 1160, .ref 652⟩, ⟨PyData.keyHash P (Str.ofString "_law_laid"), .str (Str.ofString "_law_laid") 1169, .ref 659⟩, ⟨PyData.keyHash P (Str.ofString "_law_numbered"), .str (Str.ofString "_law_numbered") 1175, .ref 664⟩, ⟨PyData.keyHash P (Str.ofString "law"), .str (Str.ofString "law") 1181, .ref 669⟩] 33, #[]⟩) ::
  (nat_lit 25, ⟨.type "cell", none, .cell (some (.ref 41)), #[]⟩) ::
  (nat_lit 30, ⟨.type "tuple", none, .seq #[.none] 0, #[]⟩) ::
  (nat_lit 37, ⟨.type "code", none, .fields #[.str (Str.ofString "__init__") 208, .str (Str.ofString "PyFATException.__init__") 209, .str (Str.ofString "/claim/cut.py") 210, .int 7 0, .int 3 0, .int 0 0, .int 0 0, .int 3 0, .ref 32, .bool true, .int 181 0, .ref 33, .none, .ref 34, .ref 35, .ref 36, .int 215 0, .int 7 0, .str (Str.ofString "/claim/cut.py") 216], #[]⟩) ::
  (nat_lit 38, ⟨.type "function", none, .func { ((fnOf (Str.ofString "__init__") (Str.ofString "PyFATException.__init__") f2m0P f2m0B f2m0S (.ref 30) .none .none (.str (Str.ofString "pyfatfs._exceptions") 194) none (.ref 37) (.ref 31))) with closure := [((Str.ofString "__class__"), 25)] }, #[]⟩) ::
  (nat_lit 40, ⟨.type "dict", none, .dict #[⟨PyData.keyHash P (Str.ofString "__module__"), .str (Str.ofString "__module__") 203, .str (Str.ofString "pyfatfs._exceptions") 194⟩, ⟨PyData.keyHash P (Str.ofString "__firstlineno__"), .str (Str.ofString "__firstlineno__") 207, .int 5 206⟩, ⟨PyData.keyHash P (Str.ofString "__init__"), .str (Str.ofString "__init__") 217, .ref 38⟩, ⟨PyData.keyHash P (Str.ofString "__static_attributes__"), .str (Str.ofString "__static_attributes__") 219, .ref 39⟩, ⟨PyData.keyHash P (Str.ofString "__weakref__"), .str (Str.ofString "__weakref__") 222, .ref 42⟩, ⟨PyData.keyHash P (Str.ofString "__doc__"), .str (Str.ofString "__doc__") 223, .none⟩] 4, #[]⟩) ::
  (nat_lit 41, ⟨.type "type", none, .cls { name := (Str.ofString "PyFATException"), bases := [.type "Exception"], mro := [.ref 41, .type "Exception", .type "BaseException", .type "object"], ns := 40, qualname := (Str.ofString "PyFATException"), hasDict := true, slotNames := [], subclasses := [.ref 54], abstract := false, collection := none, hasDel := false }, #[some (.ref 22), none, some (.str (Str.ofString "PyFATException") 196), some (.str (Str.ofString "PyFATException") 204), some (.builtin "Exception.__new__"), some (.bool true)]⟩) ::
  (nat_lit 53, ⟨.type "dict", none, .dict #[⟨PyData.keyHash P (Str.ofString "__module__"), .str (Str.ofString "__module__") 235, .str (Str.ofString "pyfatfs._exceptions") 194⟩, ⟨PyData.keyHash P (Str.ofString "__firstlineno__"), .str (Str.ofString "__firstlineno__") 239, .int 10 238⟩, ⟨PyData.keyHash P (Str.ofString "__static_attributes__"), .str (Str.ofString "__static_attributes__") 240, .ref 52⟩, ⟨PyData.keyHash P (Str.ofString "__doc__"), .str (Str.ofString "__doc__") 241, .none⟩] 2, #[]⟩) ::
  (nat_lit 54, ⟨.type "type", none, .cls { name := (Str.ofString "BrokenLFNEntryException"), bases := [.ref 41], mro := [.ref 54, .ref 41, .type "Exception", .type "BaseException", .type "object"], ns := 53, qualname := (Str.ofString "BrokenLFNEntryException"), hasDict := true, slotNames := [], subclasses := [], abstract := false, collection := none, hasDel := false }, #[some (.ref 45), none, some (.str (Str.ofString "BrokenLFNEntryException") 228), some (.str (Str.ofString "BrokenLFNEntryException") 236), some (.builtin "Exception.__new__"), some (.bool true)]⟩) ::
  (nat_lit 74, ⟨.type "dict", none, .dict #[⟨PyData.keyHash P (Str.ofString "__module__"), .str (Str.ofString "__module__") 251, .str (Str.ofString "pyfatfs._exceptions") 194⟩, ⟨PyData.keyHash P (Str.ofString "__firstlineno__"), .str (Str.ofString "__firstlineno__") 255, .int 12 254⟩, ⟨PyData.keyHash P (Str.ofString "__init__"), .str (Str.ofString "__init__") 265, .ref 72⟩, ⟨PyData.keyHash P (Str.ofString "__static_attributes__"), .str (Str.ofString "__static_attributes__") 267, .ref 73⟩, ⟨PyData.keyHash P (Str.ofString "__weakref__"), .str (Str.ofString "__weakref__") 270, .ref 76⟩, ⟨PyData.keyHash P (Str.ofString "__doc__"), .str (Str.ofString "__doc__") 271, .none⟩] 4, #[]⟩) ::
  (nat_lit 75, ⟨.type "type", none, .cls { name := (Str.ofString "NotAFatEntryException"), bases := [.type "Exception"], mro := [.ref 75, .type "Exception", .type "BaseException", .type "object"], ns := 74, qualname := (Str.ofString "NotAFatEntryException"), hasDict := true, slotNames := [], subclasses := [], abstract := false, collection := none, hasDel := false }, #[some (.ref 57), none, some (.str (Str.ofString "NotAFatEntryException") 244), some (.str (Str.ofString "NotAFatEntryException") 252), some (.builtin "Exception.__new__"), some (.bool true)]⟩) ::
  (nat_lit 87, ⟨.type "dict", none, .dict #[⟨PyData.keyHash P (Str.ofString "__module__"), .str (Str.ofString "__module__") 283, .str (Str.ofString "pyfatfs._exceptions") 194⟩, ⟨PyData.keyHash P (Str.ofString "__firstlineno__"), .str (Str.ofString "__firstlineno__") 287, .int 17 286⟩, ⟨PyData.keyHash P (Str.ofString "ENOENT"), .str (Str.ofString "ENOENT") 289, .int 2 288⟩, ⟨PyData.keyHash P (Str.ofString "ENXIO"), .str (Str.ofString "ENXIO") 291, .int 6 290⟩, ⟨PyData.keyHash P (Str.ofString "E2BIG"), .str (Str.ofString "E2BIG") 293, .int 7 292⟩, ⟨PyData.keyHash P (Str.ofString "EFAULT"), .str (Str.ofString "EFAULT") 295, .int 14 294⟩, ⟨PyData.keyHash P (Str.ofString "EEXIST"), .str (Str.ofString "EEXIST") 297, .int 17 296⟩, ⟨PyData.keyHash P (Str.ofString "ENOTDIR"), .str (Str.ofString "ENOTDIR") 299, .int 20 298⟩, ⟨PyData.keyHash P (Str.ofString "EISDIR"), .str (Str.ofString "EISDIR") 301, .int 21 300⟩, ⟨PyData.keyHash P (Str.ofString "EINVAL"), .str (Str.ofString "EINVAL") 303, .int 22 302⟩, ⟨PyData.keyHash P (Str.ofString "EMFILE"), .str (Str.ofString "EMFILE") 305, .int 24 304⟩, ⟨PyData.keyHash P (Str.ofString "EACCES"), .str (Str.ofString "EACCES") 307, .int 13 306⟩, ⟨PyData.keyHash P (Str.ofString "ENOSPC"), .str (Str.ofString "ENOSPC") 309, .int 28 308⟩, ⟨PyData.keyHash P (Str.ofString "EROFS"), .str (Str.ofString "EROFS") 311, .int 30 310⟩, ⟨PyData.keyHash P (Str.ofString "ENAMETOOLONG"), .str (Str.ofString "ENAMETOOLONG") 313, .int 36 312⟩, ⟨PyData.keyHash P (Str.ofString "EBADE"), .str (Str.ofString "EBADE") 315, .int 52 314⟩, ⟨PyData.keyHash P (Str.ofString "ETOOMANYREFS"), .str (Str.ofString "ETOOMANYREFS") 317, .int 109 316⟩, ⟨PyData.keyHash P (Str.ofString "__static_attributes__"), .str (Str.ofString "__static_attributes__") 318, .ref 86⟩, ⟨PyData.keyHash P (Str.ofString "__dict__"), .str (Str.ofString "__dict__") 320, .ref 89⟩, ⟨PyData.keyHash P (Str.ofString "__weakref__"), .str (Str.ofString "__weakref__") 322, .ref 90⟩, ⟨PyData.keyHash P (Str.ofString "__doc__"), .str (Str.ofString "__doc__") 323, .none⟩] 4, #[]⟩) ::
  (nat_lit 88, ⟨.type "type", none, .cls { name := (Str.ofString "errno"), bases := [.type "object"], mro := [.ref 88, .type "object"], ns := 87, qualname := (Str.ofString "errno"), hasDict := true, slotNames := [], subclasses := [], abstract := false, collection := none, hasDel := false }, #[none, none, some (.str (Str.ofString "errno") 276), some (.str (Str.ofString "errno") 284), some (.builtin "object.__new__"), some (.bool true)]⟩) ::
  (nat_lit 96, ⟨.type "code", none, .fields #[.str (Str.ofString "encoded") 328, .str (Str.ofString "encoded") 329, .str (Str.ofString "/claim/cut.py") 330, .int 34 0, .int 1 0, .int 0 0, .int 0 0, .int 3 0, .ref 93, .bool true, .int 181 0, .ref 94, .none, .none, .none, .ref 95, .int 331 0, .int 34 0, .str (Str.ofString "/claim/cut.py") 332], #[]⟩) ::
  (nat_lit 97, ⟨.type "function", none, .func (fnOf (Str.ofString "encoded") (Str.ofString "encoded") f7P f7B f7S .none .none .none (.str (Str.ofString "pyfatfs._exceptions") 194) none (.ref 96) .none), #[]⟩) ::
  (nat_lit 101, ⟨.type "code", none, .fields #[.str (Str.ofString "encoded_or_marked") 334, .str (Str.ofString "encoded_or_marked") 335, .str (Str.ofString "/claim/cut.py") 336, .int 36 0, .int 1 0, .int 0 0, .int 0 0, .int 3 0, .ref 98, .bool true, .int 181 0, .ref 99, .none, .none, .none, .ref 100, .int 337 0, .int 36 0, .str (Str.ofString "/claim/cut.py") 338], #[]⟩) ::
  (nat_lit 102, ⟨.type "function", none, .func (fnOf (Str.ofString "encoded_or_marked") (Str.ofString "encoded_or_marked") f8P f8B f8S .none .none .none (.str (Str.ofString "pyfatfs._exceptions") 194) none (.ref 101) .none), #[]⟩) ::
  (nat_lit 106, ⟨.type "code", none, .fields #[.str (Str.ofString "decoded") 340, .str (Str.ofString "decoded") 341, .str (Str.ofString "/claim/cut.py") 342, .int 38 0, .int 1 0, .int 0 0, .int 0 0, .int 3 0, .ref 103, .bool true, .int 181 0, .ref 104, .none, .none, .none, .ref 105, .int 343 0, .int 38 0, .str (Str.ofString "/claim/cut.py") 344], #[]⟩) ::
  (nat_lit 107, ⟨.type "function", none, .func (fnOf (Str.ofString "decoded") (Str.ofString "decoded") f9P f9B f9S .none .none .none (.str (Str.ofString "pyfatfs._exceptions") 194) none (.ref 106) .none), #[]⟩) ::
  (nat_lit 118, ⟨.type "code", none, .fields #[.str (Str.ofString "splitext") 352, .str (Str.ofString "splitext") 353, .str (Str.ofString "/claim/cut.py") 354, .int 56 0, .int 1 0, .int 0 0, .int 0 0, .int 3 0, .ref 113, .bool true, .int 181 0, .ref 114, .none, .ref 115, .ref 116, .ref 117, .int 359 0, .int 56 0, .str (Str.ofString "/claim/cut.py") 360], #[]⟩) ::
  (nat_lit 119, ⟨.type "function", none, .func (fnOf (Str.ofString "splitext") (Str.ofString "splitext") f11P f11B f11S .none .none .none (.str (Str.ofString "pyfatfs._exceptions") 194) none (.ref 118) .none), #[]⟩) ::
  (nat_lit 125, ⟨.type "code", none, .fields #[.str (Str.ofString "init_check") 362, .str (Str.ofString "init_check") 363, .str (Str.ofString "/claim/cut.py") 364, .int 63 0, .int 1 0, .int 0 0, .int 0 0, .int 3 0, .ref 120, .bool true, .int 181 0, .ref 121, .none, .ref 122, .ref 123, .ref 124, .int 366 0, .int 63 0, .str (Str.ofString "/claim/cut.py") 367], #[]⟩) ::
  (nat_lit 126, ⟨.type "function", none, .func (fnOf (Str.ofString "init_check") (Str.ofString "init_check") f12P f12B f12S .none .none .none (.str (Str.ofString "pyfatfs._exceptions") 194) none (.ref 125) .none), #[]⟩) ::
  (nat_lit 134, ⟨.type "list", none, .seq #[.int 34 385, .int 42 386, .int 43 387, .int 44 388, .int 46 389, .int 47 390, .int 58 391, .int 59 392, .int 60 393, .int 61 394, .int 62 395, .int 63 396, .int 91 397, .int 92 398, .int 93 399, .int 124 400] 0, #[]⟩) ::
  (nat_lit 135, ⟨.type "tuple", none, .seq #[.str (Str.ofString "latin-1") 326] 0, #[]⟩) ::
  (nat_lit 141, ⟨.type "code", none, .fields #[.str (Str.ofString "__init__") 402, .str (Str.ofString "EightDotThree.__init__") 403, .str (Str.ofString "/claim/cut.py") 404, .int 71 0, .int 2 0, .int 0 0, .int 0 0, .int 3 0, .ref 136, .bool true, .int 181 0, .ref 137, .none, .ref 138, .ref 139, .ref 140, .int 407 0, .int 71 0, .str (Str.ofString "/claim/cut.py") 408], #[]⟩) ::
  (nat_lit 142, ⟨.type "function", none, .func (fnOf (Str.ofString "__init__") (Str.ofString "EightDotThree.__init__") f14m2P f14m2B f14m2S (.ref 135) .none .none (.str (Str.ofString "pyfatfs.EightDotThree") 369) none (.ref 141) .none), #[]⟩) ::
  (nat_lit 148, ⟨.type "code", none, .fields #[.str (Str.ofString "as_text") 410, .str (Str.ofString "EightDotThree.as_text") 411, .str (Str.ofString "/claim/cut.py") 412, .int 76 0, .int 1 0, .int 0 0, .int 0 0, .int 3 0, .ref 143, .bool true, .int 181 0, .ref 144, .none, .ref 145, .ref 146, .ref 147, .int 418 0, .int 76 0, .str (Str.ofString "/claim/cut.py") 419], #[]⟩) ::
  (nat_lit 149, ⟨.type "function", none, .func (fnOf (Str.ofString "as_text") (Str.ofString "EightDotThree.as_text") f14m3P f14m3B f14m3S .none .none .none (.str (Str.ofString "pyfatfs.EightDotThree") 369) none (.ref 148) .none), #[]⟩) ::
  (nat_lit 162, ⟨.type "code", none, .fields #[.str (Str.ofString "get_unpadded_filename") 428, .str (Str.ofString "EightDotThree.get_unpadded_filename") 429, .str (Str.ofString "/claim/cut.py") 430, .int 88 0, .int 1 0, .int 0 0, .int 0 0, .int 3 0, .ref 157, .bool true, .int 181 0, .ref 158, .none, .ref 159, .ref 160, .ref 161, .int 432 0, .int 88 0, .str (Str.ofString "/claim/cut.py") 433], #[]⟩) ::
  (nat_lit 163, ⟨.type "function", none, .func (fnOf (Str.ofString "get_unpadded_filename") (Str.ofString "EightDotThree.get_unpadded_filename") f14m5P f14m5B f14m5S .none .none .none (.str (Str.ofString "pyfatfs.EightDotThree") 369) none (.ref 162) .none), #[]⟩) ::
  (nat_lit 172, ⟨.type "staticmethod", (some 171), .fields #[.ref 170, .bool false], #[]⟩) ::
  (nat_lit 179, ⟨.type "code", none, .fields #[.str (Str.ofString "_set_name") 454, .str (Str.ofString "EightDotThree._set_name") 455, .str (Str.ofString "/claim/cut.py") 456, .int 96 0, .int 2 0, .int 0 0, .int 0 0, .int 3 0, .ref 174, .bool true, .int 181 0, .ref 175, .none, .ref 176, .ref 177, .ref 178, .int 459 0, .int 96 0, .str (Str.ofString "/claim/cut.py") 460], #[]⟩) ::
  (nat_lit 180, ⟨.type "function", none, .func (fnOf (Str.ofString "_set_name") (Str.ofString "EightDotThree._set_name") f14m7P f14m7B f14m7S .none .none .none (.str (Str.ofString "pyfatfs.EightDotThree") 369) none (.ref 179) .none), #[]⟩) ::
  (nat_lit 186, ⟨.type "code", none, .fields #[.str (Str.ofString "set_byte_name") 462, .str (Str.ofString "EightDotThree.set_byte_name") 463, .str (Str.ofString "/claim/cut.py") 464, .int 102 0, .int 2 0, .int 0 0, .int 0 0, .int 3 0, .ref 181, .bool true, .int 181 0, .ref 182, .none, .ref 183, .ref 184, .ref 185, .int 467 0, .int 102 0, .str (Str.ofString "/claim/cut.py") 468], #[]⟩) ::
  (nat_lit 187, ⟨.type "function", none, .func (fnOf (Str.ofString "set_byte_name") (Str.ofString "EightDotThree.set_byte_name") f14m8P f14m8B f14m8S .none .none .none (.str (Str.ofString "pyfatfs.EightDotThree") 369) none (.ref 186) .none), #[]⟩) ::
  (nat_lit 193, ⟨.type "code", none, .fields #[.str (Str.ofString "set_str_name") 470, .str (Str.ofString "EightDotThree.set_str_name") 471, .str (Str.ofString "/claim/cut.py") 472, .int 112 0, .int 2 0, .int 0 0, .int 0 0, .int 3 0, .ref 188, .bool true, .int 181 0, .ref 189, .none, .ref 190, .ref 191, .ref 192, .int 475 0, .int 112 0, .str (Str.ofString "/claim/cut.py") 476], #[]⟩) ::
  (nat_lit 194, ⟨.type "function", none, .func (fnOf (Str.ofString "set_str_name") (Str.ofString "EightDotThree.set_str_name") f14m9P f14m9B f14m9S .none .none .none (.str (Str.ofString "pyfatfs.EightDotThree") 369) none (.ref 193) .none), #[]⟩) ::
  (nat_lit 207, ⟨.type "code", none, .fields #[.str (Str.ofString "_check_characters") 487, .str (Str.ofString "EightDotThree._check_characters") 488, .str (Str.ofString "/claim/cut.py") 489, .int 131 0, .int 2 0, .int 0 0, .int 0 0, .int 3 0, .ref 202, .bool true, .int 181 0, .ref 203, .none, .ref 204, .ref 205, .ref 206, .int 493 0, .int 131 0, .str (Str.ofString "/claim/cut.py") 494], #[]⟩) ::
  (nat_lit 208, ⟨.type "function", none, .func (fnOf (Str.ofString "_check_characters") (Str.ofString "EightDotThree._check_characters") f14m11P f14m11B f14m11S .none .none .none (.str (Str.ofString "pyfatfs.EightDotThree") 369) (some 211) (.ref 207) .none), #[]⟩) ::
  (nat_lit 210, ⟨.type "staticmethod", (some 209), .fields #[.ref 208, .bool false], #[]⟩) ::
  (nat_lit 212, ⟨.type "tuple", none, .seq #[.str (Str.ofString "latin-1") 326] 0, #[]⟩) ::
  (nat_lit 218, ⟨.type "code", none, .fields #[.str (Str.ofString "is_8dot3_conform") 508, .str (Str.ofString "EightDotThree.is_8dot3_conform") 509, .str (Str.ofString "/claim/cut.py") 510, .int 137 0, .int 2 0, .int 0 0, .int 0 0, .int 3 0, .ref 213, .bool true, .int 181 0, .ref 214, .none, .ref 215, .ref 216, .ref 217, .int 516 0, .int 137 0, .str (Str.ofString "/claim/cut.py") 517], #[]⟩) ::
  (nat_lit 219, ⟨.type "function", none, .func (fnOf (Str.ofString "is_8dot3_conform") (Str.ofString "EightDotThree.is_8dot3_conform") f14m12P f14m12B f14m12S (.ref 212) .none .none (.str (Str.ofString "pyfatfs.EightDotThree") 369) (some 222) (.ref 218) .none), #[]⟩) ::
  (nat_lit 221, ⟨.type "staticmethod", (some 220), .fields #[.ref 219, .bool false], #[]⟩) ::
  (nat_lit 228, ⟨.type "code", none, .fields #[.str (Str.ofString "_pad_8dot3_name") 531, .str (Str.ofString "EightDotThree._pad_8dot3_name") 532, .str (Str.ofString "/claim/cut.py") 533, .int 154 0, .int 1 0, .int 0 0, .int 0 0, .int 3 0, .ref 223, .bool true, .int 181 0, .ref 224, .none, .ref 225, .ref 226, .ref 227, .int 537 0, .int 154 0, .str (Str.ofString "/claim/cut.py") 538], #[]⟩) ::
  (nat_lit 229, ⟨.type "function", none, .func (fnOf (Str.ofString "_pad_8dot3_name") (Str.ofString "EightDotThree._pad_8dot3_name") f14m13P f14m13B f14m13S .none .none .none (.str (Str.ofString "pyfatfs.EightDotThree") 369) (some 232) (.ref 228) .none), #[]⟩) ::
  (nat_lit 231, ⟨.type "staticmethod", (some 230), .fields #[.ref 229, .bool false], #[]⟩) ::
  (nat_lit 236, ⟨.type "code", none, .fields #[.str (Str.ofString "make_8dot3_name") 552, .str (Str.ofString "EightDotThree.make_8dot3_name") 553, .str (Str.ofString "/claim/cut.py") 554, .int 161 0, .int 2 0, .int 0 0, .int 0 0, .int 3 0, .ref 233, .bool true, .int 181 0, .ref 234, .none, .none, .none, .ref 235, .int 555 0, .int 161 0, .str (Str.ofString "/claim/cut.py") 556], #[]⟩) ::
  (nat_lit 237, ⟨.type "function", none, .func (fnOf (Str.ofString "make_8dot3_name") (Str.ofString "EightDotThree.make_8dot3_name") f14m14P f14m14B f14m14S .none .none .none (.str (Str.ofString "pyfatfs.EightDotThree") 369) (some 240) (.ref 236) .none), #[]⟩) ::
  (nat_lit 239, ⟨.type "staticmethod", (some 238), .fields #[.ref 237, .bool false], #[]⟩) ::
  (nat_lit 242, ⟨.type "dict", none, .dict #[⟨PyData.keyHash P (Str.ofString "__module__"), .str (Str.ofString "__module__") 378, .str (Str.ofString "pyfatfs.EightDotThree") 369⟩, ⟨PyData.keyHash P (Str.ofString "__firstlineno__"), .str (Str.ofString "__firstlineno__") 382, .int 67 381⟩, ⟨PyData.keyHash P (Str.ofString "SFN_LENGTH"), .str (Str.ofString "SFN_LENGTH") 384, .int 11 383⟩, ⟨PyData.keyHash P (Str.ofString "INVALID_CHARACTERS"), .str (Str.ofString "INVALID_CHARACTERS") 401, .ref 134⟩, ⟨PyData.keyHash P (Str.ofString "__init__"), .str (Str.ofString "__init__") 409, .ref 142⟩, ⟨PyData.keyHash P (Str.ofString "as_text"), .str (Str.ofString "as_text") 420, .ref 149⟩, ⟨PyData.keyHash P (Str.ofString "as_bytes"), .str (Str.ofString "as_bytes") 427, .ref 156⟩, ⟨PyData.keyHash P (Str.ofString "get_unpadded_filename"), .str (Str.ofString "get_unpadded_filename") 434, .ref 163⟩, ⟨PyData.keyHash P (Str.ofString "_raise_8dot3_nonconformant"), .str (Str.ofString "_raise_8dot3_nonconformant") 453, .ref 172⟩, ⟨PyData.keyHash P (Str.ofString "_set_name"), .str (Str.ofString "_set_name") 461, .ref 180⟩, ⟨PyData.keyHash P (Str.ofString "set_byte_name"), .str (Str.ofString "set_byte_name") 469, .ref 187⟩, ⟨PyData.keyHash P (Str.ofString "set_str_name"), .str (Str.ofString "set_str_name") 477, .ref 194⟩, ⟨PyData.keyHash P (Str.ofString "checksum"), .str (Str.ofString "checksum") 486, .ref 201⟩, ⟨PyData.keyHash P (Str.ofString "_check_characters"), .str (Str.ofString "_check_characters") 507, .ref 210⟩, ⟨PyData.keyHash P (Str.ofString "is_8dot3_conform"), .str (Str.ofString "is_8dot3_conform") 530, .ref 221⟩, ⟨PyData.keyHash P (Str.ofString "_pad_8dot3_name"), .str (Str.ofString "_pad_8dot3_name") 551, .ref 231⟩, ⟨PyData.keyHash P (Str.ofString "make_8dot3_name"), .str (Str.ofString "make_8dot3_name") 569, .ref 239⟩, ⟨PyData.keyHash P (Str.ofString "__static_attributes__"), .str (Str.ofString "__static_attributes__") 573, .ref 241⟩, ⟨PyData.keyHash P (Str.ofString "__dict__"), .str (Str.ofString "__dict__") 575, .ref 244⟩, ⟨PyData.keyHash P (Str.ofString "__weakref__"), .str (Str.ofString "__weakref__") 577, .ref 245⟩, ⟨PyData.keyHash P (Str.ofString "__doc__"), .str (Str.ofString "__doc__") 578, .none⟩] 4, #[]⟩) ::
  (nat_lit 243, ⟨.type "type", none, .cls { name := (Str.ofString "EightDotThree"), bases := [.type "object"], mro := [.ref 243, .type "object"], ns := 242, qualname := (Str.ofString "EightDotThree"), hasDict := true, slotNames := [], subclasses := [], abstract := false, collection := none, hasDel := false }, #[none, none, some (.str (Str.ofString "EightDotThree") 371), some (.str (Str.ofString "EightDotThree") 379), some (.builtin "object.__new__"), some (.bool true)]⟩) ::
  (nat_lit 255, ⟨.type "list", none, .seq #[.str (Str.ofString "DIR_Name") 619, .str (Str.ofString "DIR_Attr") 620, .str (Str.ofString "DIR_NTRes") 621, .str (Str.ofString "DIR_CrtTimeTenth") 622, .str (Str.ofString "DIR_CrtTime") 623, .str (Str.ofString "DIR_CrtDate") 624, .str (Str.ofString "DIR_LstAccessDate") 625, .str (Str.ofString "DIR_FstClusHI") 626, .str (Str.ofString "DIR_WrtTime") 627, .str (Str.ofString "DIR_WrtDate") 628, .str (Str.ofString "DIR_FstClusLO") 629, .str (Str.ofString "DIR_FileSize") 630] 0, #[]⟩) ::
  (nat_lit 256, ⟨.type "tuple", none, .seq #[.str (Str.ofString "latin-1") 326, .none, .bool false, .none] 0, #[]⟩) ::
  (nat_lit 262, ⟨.type "code", none, .fields #[.str (Str.ofString "__init__") 632, .str (Str.ofString "FATDirectoryEntry.__init__") 633, .str (Str.ofString "/claim/cut.py") 634, .int 212 0, .int 17 0, .int 0 0, .int 0 0, .int 3 0, .ref 257, .bool true, .int 181 0, .ref 258, .none, .ref 259, .ref 260, .ref 261, .int 652 0, .int 212 0, .str (Str.ofString "/claim/cut.py") 653], #[]⟩) ::
  (nat_lit 263, ⟨.type "function", none, .func (fnOf (Str.ofString "__init__") (Str.ofString "FATDirectoryEntry.__init__") f16m13P f16m13B f16m13S (.ref 256) .none .none (.str (Str.ofString "pyfatfs.FATDirectoryEntry") 581) none (.ref 262) .none), #[]⟩) ::
  (nat_lit 269, ⟨.type "code", none, .fields #[.str (Str.ofString "set_size") 655, .str (Str.ofString "FATDirectoryEntry.set_size") 656, .str (Str.ofString "/claim/cut.py") 657, .int 236 0, .int 2 0, .int 0 0, .int 0 0, .int 3 0, .ref 264, .bool true, .int 181 0, .ref 265, .none, .ref 266, .ref 267, .ref 268, .int 660 0, .int 236 0, .str (Str.ofString "/claim/cut.py") 661], #[]⟩) ::
  (nat_lit 270, ⟨.type "function", none, .func (fnOf (Str.ofString "set_size") (Str.ofString "FATDirectoryEntry.set_size") f16m14P f16m14B f16m14S .none .none .none (.str (Str.ofString "pyfatfs.FATDirectoryEntry") 581) none (.ref 269) .none), #[]⟩) ::
  (nat_lit 280, ⟨.type "staticmethod", (some 279), .fields #[.ref 278, .bool false], #[]⟩) ::
  (nat_lit 311, ⟨.type "staticmethod", (some 310), .fields #[.ref 309, .bool false], #[]⟩) ::
  (nat_lit 325, ⟨.type "code", none, .fields #[.str (Str.ofString "set_lfn_entry") 740, .str (Str.ofString "FATDirectoryEntry.set_lfn_entry") 741, .str (Str.ofString "/claim/cut.py") 742, .int 261 0, .int 2 0, .int 0 0, .int 0 0, .int 3 0, .ref 320, .bool true, .int 181 0, .ref 321, .none, .ref 322, .ref 323, .ref 324, .int 748 0, .int 261 0, .str (Str.ofString "/claim/cut.py") 749], #[]⟩) ::
  (nat_lit 326, ⟨.type "function", none, .func (fnOf (Str.ofString "set_lfn_entry") (Str.ofString "FATDirectoryEntry.set_lfn_entry") f16m21P f16m21B f16m21S .none .none .none (.str (Str.ofString "pyfatfs.FATDirectoryEntry") 581) none (.ref 325) .none), #[]⟩) ::
  (nat_lit 360, ⟨.type "code", none, .fields #[.str (Str.ofString "_add_parent") 780, .str (Str.ofString "FATDirectoryEntry._add_parent") 781, .str (Str.ofString "/claim/cut.py") 782, .int 283 0, .int 2 0, .int 0 0, .int 0 0, .int 3 0, .ref 355, .bool true, .int 181 0, .ref 356, .none, .ref 357, .ref 358, .ref 359, .int 785 0, .int 283 0, .str (Str.ofString "/claim/cut.py") 786], #[]⟩) ::
  (nat_lit 361, ⟨.type "function", none, .func (fnOf (Str.ofString "_add_parent") (Str.ofString "FATDirectoryEntry._add_parent") f16m26P f16m26B f16m26S .none .none .none (.str (Str.ofString "pyfatfs.FATDirectoryEntry") 581) none (.ref 360) .none), #[]⟩) ::
  (nat_lit 388, ⟨.type "code", none, .fields #[.str (Str.ofString "is_special") 810, .str (Str.ofString "FATDirectoryEntry.is_special") 811, .str (Str.ofString "/claim/cut.py") 812, .int 299 0, .int 1 0, .int 0 0, .int 0 0, .int 3 0, .ref 383, .bool true, .int 181 0, .ref 384, .none, .ref 385, .ref 386, .ref 387, .int 814 0, .int 299 0, .str (Str.ofString "/claim/cut.py") 815], #[]⟩) ::
  (nat_lit 389, ⟨.type "function", none, .func (fnOf (Str.ofString "is_special") (Str.ofString "FATDirectoryEntry.is_special") f16m30P f16m30B f16m30S .none .none .none (.str (Str.ofString "pyfatfs.FATDirectoryEntry") 581) none (.ref 388) .none), #[]⟩) ::
  (nat_lit 416, ⟨.type "code", none, .fields #[.str (Str.ofString "is_volume_id") 838, .str (Str.ofString "FATDirectoryEntry.is_volume_id") 839, .str (Str.ofString "/claim/cut.py") 840, .int 311 0, .int 1 0, .int 0 0, .int 0 0, .int 3 0, .ref 411, .bool true, .int 181 0, .ref 412, .none, .ref 413, .ref 414, .ref 415, .int 842 0, .int 311 0, .str (Str.ofString "/claim/cut.py") 843], #[]⟩) ::
  (nat_lit 417, ⟨.type "function", none, .func (fnOf (Str.ofString "is_volume_id") (Str.ofString "FATDirectoryEntry.is_volume_id") f16m34P f16m34B f16m34S .none .none .none (.str (Str.ofString "pyfatfs.FATDirectoryEntry") 581) none (.ref 416) .none), #[]⟩) ::
  (nat_lit 423, ⟨.type "code", none, .fields #[.str (Str.ofString "_verify_is_directory") 845, .str (Str.ofString "FATDirectoryEntry._verify_is_directory") 846, .str (Str.ofString "/claim/cut.py") 847, .int 314 0, .int 1 0, .int 0 0, .int 0 0, .int 3 0, .ref 418, .bool true, .int 181 0, .ref 419, .none, .ref 420, .ref 421, .ref 422, .int 849 0, .int 314 0, .str (Str.ofString "/claim/cut.py") 850], #[]⟩) ::
  (nat_lit 424, ⟨.type "function", none, .func (fnOf (Str.ofString "_verify_is_directory") (Str.ofString "FATDirectoryEntry._verify_is_directory") f16m35P f16m35B f16m35S .none .none .none (.str (Str.ofString "pyfatfs.FATDirectoryEntry") 581) none (.ref 423) .none), #[]⟩) ::
  (nat_lit 430, ⟨.type "code", none, .fields #[.str (Str.ofString "is_directory") 852, .str (Str.ofString "FATDirectoryEntry.is_directory") 853, .str (Str.ofString "/claim/cut.py") 854, .int 318 0, .int 1 0, .int 0 0, .int 0 0, .int 3 0, .ref 425, .bool true, .int 181 0, .ref 426, .none, .ref 427, .ref 428, .ref 429, .int 856 0, .int 318 0, .str (Str.ofString "/claim/cut.py") 857], #[]⟩) ::
  (nat_lit 431, ⟨.type "function", none, .func (fnOf (Str.ofString "is_directory") (Str.ofString "FATDirectoryEntry.is_directory") f16m36P f16m36B f16m36S .none .none .none (.str (Str.ofString "pyfatfs.FATDirectoryEntry") 581) none (.ref 430) .none), #[]⟩) ::
  (nat_lit 451, ⟨.type "code", none, .fields #[.str (Str.ofString "_populate_dirs") 873, .str (Str.ofString "FATDirectoryEntry._populate_dirs") 874, .str (Str.ofString "/claim/cut.py") 875, .int 327 0, .int 1 0, .int 0 0, .int 0 0, .int 3 0, .ref 446, .bool true, .int 181 0, .ref 447, .none, .ref 448, .ref 449, .ref 450, .int 879 0, .int 327 0, .str (Str.ofString "/claim/cut.py") 880], #[]⟩) ::
  (nat_lit 452, ⟨.type "function", none, .func (fnOf (Str.ofString "_populate_dirs") (Str.ofString "FATDirectoryEntry._populate_dirs") f16m39P f16m39B f16m39S .none .none .none (.str (Str.ofString "pyfatfs.FATDirectoryEntry") 581) none (.ref 451) .none), #[]⟩) ::
  (nat_lit 458, ⟨.type "code", none, .fields #[.str (Str.ofString "_get_entries_raw") 882, .str (Str.ofString "FATDirectoryEntry._get_entries_raw") 883, .str (Str.ofString "/claim/cut.py") 884, .int 336 0, .int 1 0, .int 0 0, .int 0 0, .int 3 0, .ref 453, .bool true, .int 181 0, .ref 454, .none, .ref 455, .ref 456, .ref 457, .int 886 0, .int 336 0, .str (Str.ofString "/claim/cut.py") 887], #[]⟩) ::
  (nat_lit 459, ⟨.type "function", none, .func (fnOf (Str.ofString "_get_entries_raw") (Str.ofString "FATDirectoryEntry._get_entries_raw") f16m40P f16m40B f16m40S .none .none .none (.str (Str.ofString "pyfatfs.FATDirectoryEntry") 581) none (.ref 458) .none), #[]⟩) ::
  (nat_lit 465, ⟨.type "code", none, .fields #[.str (Str.ofString "get_entries") 889, .str (Str.ofString "FATDirectoryEntry.get_entries") 890, .str (Str.ofString "/claim/cut.py") 891, .int 341 0, .int 1 0, .int 0 0, .int 0 0, .int 3 0, .ref 460, .bool true, .int 181 0, .ref 461, .none, .ref 462, .ref 463, .ref 464, .int 897 0, .int 341 0, .str (Str.ofString "/claim/cut.py") 898], #[]⟩) ::
  (nat_lit 466, ⟨.type "function", none, .func (fnOf (Str.ofString "get_entries") (Str.ofString "FATDirectoryEntry.get_entries") f16m41P f16m41B f16m41S .none .none .none (.str (Str.ofString "pyfatfs.FATDirectoryEntry") 581) none (.ref 465) .none), #[]⟩) ::
  (nat_lit 488, ⟨.type "tuple", none, .seq #[.bool true] 0, #[]⟩) ::
  (nat_lit 494, ⟨.type "code", none, .fields #[.str (Str.ofString "add_subdirectory") 923, .str (Str.ofString "FATDirectoryEntry.add_subdirectory") 924, .str (Str.ofString "/claim/cut.py") 925, .int 363 0, .int 3 0, .int 0 0, .int 0 0, .int 3 0, .ref 489, .bool true, .int 181 0, .ref 490, .none, .ref 491, .ref 492, .ref 493, .int 929 0, .int 363 0, .str (Str.ofString "/claim/cut.py") 930], #[]⟩) ::
  (nat_lit 495, ⟨.type "function", none, .func (fnOf (Str.ofString "add_subdirectory") (Str.ofString "FATDirectoryEntry.add_subdirectory") f16m45P f16m45B f16m45S (.ref 488) .none .none (.str (Str.ofString "pyfatfs.FATDirectoryEntry") 581) none (.ref 494) .none), #[]⟩) ::
  (nat_lit 522, ⟨.type "code", none, .fields #[.str (Str.ofString "get_short_name") 954, .str (Str.ofString "FATDirectoryEntry.get_short_name") 955, .str (Str.ofString "/claim/cut.py") 956, .int 378 0, .int 1 0, .int 0 0, .int 0 0, .int 3 0, .ref 517, .bool true, .int 181 0, .ref 518, .none, .ref 519, .ref 520, .ref 521, .int 958 0, .int 378 0, .str (Str.ofString "/claim/cut.py") 959], #[]⟩) ::
  (nat_lit 523, ⟨.type "function", none, .func (fnOf (Str.ofString "get_short_name") (Str.ofString "FATDirectoryEntry.get_short_name") f16m49P f16m49B f16m49S .none .none .none (.str (Str.ofString "pyfatfs.FATDirectoryEntry") 581) none (.ref 522) .none), #[]⟩) ::
  (nat_lit 532, ⟨.type "dict", none, .dict #[⟨PyData.keyHash P (Str.ofString "__module__"), .str (Str.ofString "__module__") 590, .str (Str.ofString "pyfatfs.FATDirectoryEntry") 581⟩, ⟨PyData.keyHash P (Str.ofString "__firstlineno__"), .str (Str.ofString "__firstlineno__") 594, .int 197 593⟩, ⟨PyData.keyHash P (Str.ofString "FREE_DIR_ENTRY_MARK"), .str (Str.ofString "FREE_DIR_ENTRY_MARK") 596, .int 229 595⟩, ⟨PyData.keyHash P (Str.ofString "LAST_DIR_ENTRY_MARK"), .str (Str.ofString "LAST_DIR_ENTRY_MARK") 598, .int 0 597⟩, ⟨PyData.keyHash P (Str.ofString "ATTR_READ_ONLY"), .str (Str.ofString "ATTR_READ_ONLY") 600, .int 1 599⟩, ⟨PyData.keyHash P (Str.ofString "ATTR_HIDDEN"), .str (Str.ofString "ATTR_HIDDEN") 602, .int 2 601⟩, ⟨PyData.keyHash P (Str.ofString "ATTR_SYSTEM"), .str (Str.ofString "ATTR_SYSTEM") 604, .int 4 603⟩, ⟨PyData.keyHash P (Str.ofString "ATTR_VOLUME_ID"), .str (Str.ofString "ATTR_VOLUME_ID") 606, .int 8 605⟩, ⟨PyData.keyHash P (Str.ofString "ATTR_DIRECTORY"), .str (Str.ofString "ATTR_DIRECTORY") 608, .int 16 607⟩, ⟨PyData.keyHash P (Str.ofString "ATTR_ARCHIVE"), .str (Str.ofString "ATTR_ARCHIVE") 610, .int 32 609⟩, ⟨PyData.keyHash P (Str.ofString "ATTR_LONG_NAME"), .str (Str.ofString "ATTR_LONG_NAME") 612, .int 15 611⟩, ⟨PyData.keyHash P (Str.ofString "ATTR_LONG_NAME_MASK"), .str (Str.ofString "ATTR_LONG_NAME_MASK") 614, .int 63 613⟩, ⟨PyData.keyHash P (Str.ofString "FAT_DIRECTORY_HEADER_SIZE"), .str (Str.ofString "FAT_DIRECTORY_HEADER_SIZE") 616, .int 32 615⟩, ⟨PyData.keyHash P (Str.ofString "MAX_FILE_SIZE"), .str (Str.ofString "MAX_FILE_SIZE") 618, .int 4294967295 617⟩, ⟨PyData.keyHash P (Str.ofString "FAT_DIRECTORY_VARS"), .str (Str.ofString "FAT_DIRECTORY_VARS") 631, .ref 255⟩, ⟨PyData.keyHash P (Str.ofString "__init__"), .str (Str.ofString "__init__") 654, .ref 263⟩, ⟨PyData.keyHash P (Str.ofString "set_size"), .str (Str.ofString "set_size") 662, .ref 270⟩, ⟨PyData.keyHash P (Str.ofString "new"), .str (Str.ofString "new") 691, .ref 280⟩, ⟨PyData.keyHash P (Str.ofString "get_ctime"), .str (Str.ofString "get_ctime") 698, .ref 288⟩, ⟨PyData.keyHash P (Str.ofString "get_mtime"), .str (Str.ofString "get_mtime") 705, .ref 295⟩, ⟨PyData.keyHash P (Str.ofString "get_atime"), .str (Str.ofString "get_atime") 712, .ref 302⟩, ⟨PyData.keyHash P (Str.ofString "_combine_dosdatetime"), .str (Str.ofString "_combine_dosdatetime") 732, .ref 311⟩, ⟨PyData.keyHash P (Str.ofString "get_checksum"), .str (Str.ofString "get_checksum") 739, .ref 319⟩, ⟨PyData.keyHash P (Str.ofString "set_lfn_entry"), .str (Str.ofString "set_lfn_entry") 750, .ref 326⟩, ⟨PyData.keyHash P (Str.ofString "get_entry_size"), .str (Str.ofString "get_entry_size") 757, .ref 333⟩, ⟨PyData.keyHash P (Str.ofString "get_cluster"), .str (Str.ofString "get_cluster") 764, .ref 340⟩, ⟨PyData.keyHash P (Str.ofString "set_cluster"), .str (Str.ofString "set_cluster") 772, .ref 347⟩, ⟨PyData.keyHash P (Str.ofString "as_bytes"), .str (Str.ofString "as_bytes") 779, .ref 354⟩, ⟨PyData.keyHash P (Str.ofString "_add_parent"), .str (Str.ofString "_add_parent") 787, .ref 361⟩, ⟨PyData.keyHash P (Str.ofString "_get_parent_dir"), .str (Str.ofString "_get_parent_dir") 795, .ref 368⟩, ⟨PyData.keyHash P (Str.ofString "get_full_path"), .str (Str.ofString "get_full_path") 802, .ref 375⟩, ⟨PyData.keyHash P (Str.ofString "get_parent_dir"), .str (Str.ofString "get_parent_dir") 809, .ref 382⟩, ⟨PyData.keyHash P (Str.ofString "is_special"), .str (Str.ofString "is_special") 816, .ref 389⟩, ⟨PyData.keyHash P (Str.ofString "is_read_only"), .str (Str.ofString "is_read_only") 823, .ref 396⟩, ⟨PyData.keyHash P (Str.ofString "is_hidden"), .str (Str.ofString "is_hidden") 830, .ref 403⟩, ⟨PyData.keyHash P (Str.ofString "is_system"), .str (Str.ofString "is_system") 837, .ref 410⟩, ⟨PyData.keyHash P (Str.ofString "is_volume_id"), .str (Str.ofString "is_volume_id") 844, .ref 417⟩, ⟨PyData.keyHash P (Str.ofString "_verify_is_directory"), .str (Str.ofString "_verify_is_directory") 851, .ref 424⟩, ⟨PyData.keyHash P (Str.ofString "is_directory"), .str (Str.ofString "is_directory") 858, .ref 431⟩, ⟨PyData.keyHash P (Str.ofString "is_archive"), .str (Str.ofString "is_archive") 865, .ref 438⟩, ⟨PyData.keyHash P (Str.ofString "is_empty"), .str (Str.ofString "is_empty") 872, .ref 445⟩, ⟨PyData.keyHash P (Str.ofString "_populate_dirs"), .str (Str.ofString "_populate_dirs") 881, .ref 452⟩, ⟨PyData.keyHash P (Str.ofString "_get_entries_raw"), .str (Str.ofString "_get_entries_raw") 888, .ref 459⟩, ⟨PyData.keyHash P (Str.ofString "get_entries"), .str (Str.ofString "get_entries") 899, .ref 466⟩, ⟨PyData.keyHash P (Str.ofString "_search_entry"), .str (Str.ofString "_search_entry") 907, .ref 473⟩, ⟨PyData.keyHash P (Str.ofString "get_entry"), .str (Str.ofString "get_entry") 915, .ref 480⟩, ⟨PyData.keyHash P (Str.ofString "walk"), .str (Str.ofString "walk") 922, .ref 487⟩, ⟨PyData.keyHash P (Str.ofString "add_subdirectory"), .str (Str.ofString "add_subdirectory") 931, .ref 495⟩, ⟨PyData.keyHash P (Str.ofString "mark_empty"), .str (Str.ofString "mark_empty") 938, .ref 502⟩, ⟨PyData.keyHash P (Str.ofString "remove_dir_entry"), .str (Str.ofString "remove_dir_entry") 946, .ref 509⟩, ⟨PyData.keyHash P (Str.ofString "as_name"), .str (Str.ofString "as_name") 953, .ref 516⟩, ⟨PyData.keyHash P (Str.ofString "get_short_name"), .str (Str.ofString "get_short_name") 960, .ref 523⟩, ⟨PyData.keyHash P (Str.ofString "get_long_name"), .str (Str.ofString "get_long_name") 967, .ref 530⟩, ⟨PyData.keyHash P (Str.ofString "__static_attributes__"), .str (Str.ofString "__static_attributes__") 986, .ref 531⟩, ⟨PyData.keyHash P (Str.ofString "__dict__"), .str (Str.ofString "__dict__") 988, .ref 534⟩, ⟨PyData.keyHash P (Str.ofString "__weakref__"), .str (Str.ofString "__weakref__") 990, .ref 535⟩, ⟨PyData.keyHash P (Str.ofString "__doc__"), .str (Str.ofString "__doc__") 991, .none⟩] 4, #[]⟩) ::
  (nat_lit 533, ⟨.type "type", none, .cls { name := (Str.ofString "FATDirectoryEntry"), bases := [.type "object"], mro := [.ref 533, .type "object"], ns := 532, qualname := (Str.ofString "FATDirectoryEntry"), hasDict := true, slotNames := [], subclasses := [], abstract := false, collection := none, hasDel := false }, #[none, none, some (.str (Str.ofString "FATDirectoryEntry") 583), some (.str (Str.ofString "FATDirectoryEntry") 591), some (.builtin "object.__new__"), some (.bool true)]⟩) ::
  (nat_lit 545, ⟨.type "list", none, .seq #[.str (Str.ofString "LDIR_Ord") 1006, .str (Str.ofString "LDIR_Name1") 1007, .str (Str.ofString "LDIR_Attr") 1008, .str (Str.ofString "LDIR_Type") 1009, .str (Str.ofString "LDIR_Chksum") 1010, .str (Str.ofString "LDIR_Name2") 1011, .str (Str.ofString "LDIR_FstClusLO") 1012, .str (Str.ofString "LDIR_Name3") 1013] 0, #[]⟩) ::
  (nat_lit 590, ⟨.type "staticmethod", (some 589), .fields #[.ref 588, .bool false], #[]⟩) ::
  (nat_lit 607, ⟨.type "dict", none, .dict #[⟨PyData.keyHash P (Str.ofString "__module__"), .str (Str.ofString "__module__") 1001, .str (Str.ofString "pyfatfs.FATDirectoryEntry") 581⟩, ⟨PyData.keyHash P (Str.ofString "__firstlineno__"), .str (Str.ofString "__firstlineno__") 1005, .int 383 1004⟩, ⟨PyData.keyHash P (Str.ofString "FAT_LONG_DIRECTORY_VARS"), .str (Str.ofString "FAT_LONG_DIRECTORY_VARS") 1014, .ref 545⟩, ⟨PyData.keyHash P (Str.ofString "LAST_LONG_ENTRY"), .str (Str.ofString "LAST_LONG_ENTRY") 1016, .int 64 1015⟩, ⟨PyData.keyHash P (Str.ofString "LFN_ENTRY_LENGTH"), .str (Str.ofString "LFN_ENTRY_LENGTH") 1018, .int 26 1017⟩, ⟨PyData.keyHash P (Str.ofString "__init__"), .str (Str.ofString "__init__") 1025, .ref 552⟩, ⟨PyData.keyHash P (Str.ofString "get_entries"), .str (Str.ofString "get_entries") 1035, .ref 560⟩, ⟨PyData.keyHash P (Str.ofString "mark_empty"), .str (Str.ofString "mark_empty") 1042, .ref 567⟩, ⟨PyData.keyHash P (Str.ofString "as_bytes"), .str (Str.ofString "as_bytes") 1049, .ref 574⟩, ⟨PyData.keyHash P (Str.ofString "as_text"), .str (Str.ofString "as_text") 1059, .ref 581⟩, ⟨PyData.keyHash P (Str.ofString "is_lfn_entry"), .str (Str.ofString "is_lfn_entry") 1079, .ref 590⟩, ⟨PyData.keyHash P (Str.ofString "add_lfn_entry"), .str (Str.ofString "add_lfn_entry") 1094, .ref 598⟩, ⟨PyData.keyHash P (Str.ofString "is_lfn_entry_complete"), .str (Str.ofString "is_lfn_entry_complete") 1101, .ref 605⟩, ⟨PyData.keyHash P (Str.ofString "__static_attributes__"), .str (Str.ofString "__static_attributes__") 1103, .ref 606⟩, ⟨PyData.keyHash P (Str.ofString "__dict__"), .str (Str.ofString "__dict__") 1105, .ref 609⟩, ⟨PyData.keyHash P (Str.ofString "__weakref__"), .str (Str.ofString "__weakref__") 1107, .ref 610⟩, ⟨PyData.keyHash P (Str.ofString "__doc__"), .str (Str.ofString "__doc__") 1108, .none⟩] 4, #[]⟩) ::
  (nat_lit 608, ⟨.type "type", none, .cls { name := (Str.ofString "FATLongDirectoryEntry"), bases := [.type "object"], mro := [.ref 608, .type "object"], ns := 607, qualname := (Str.ofString "FATLongDirectoryEntry"), hasDict := true, slotNames := [], subclasses := [], abstract := false, collection := none, hasDel := false }, #[some (.ref 538), none, some (.str (Str.ofString "FATLongDirectoryEntry") 994), some (.str (Str.ofString "FATLongDirectoryEntry") 1002), some (.builtin "object.__new__"), some (.bool true)]⟩) ::
  (nat_lit 618, ⟨.type "code", none, .fields #[.str (Str.ofString "_law_heads") 1113, .str (Str.ofString "_law_heads") 1114, .str (Str.ofString "/claim/cut.py") 1115, .int 423 0, .int 0 0, .int 0 0, .int 0 0, .int 3 0, .ref 613, .bool true, .int 181 0, .ref 614, .none, .ref 615, .ref 616, .ref 617, .int 1116 0, .int 423 0, .str (Str.ofString "/claim/cut.py") 1117], #[]⟩) ::
  (nat_lit 619, ⟨.type "function", none, .func (fnOf (Str.ofString "_law_heads") (Str.ofString "_law_heads") f19P f19B f19S .none .none .none (.str (Str.ofString "law_jj0020_01") 1111) none (.ref 618) .none), #[]⟩) ::
  (nat_lit 625, ⟨.type "code", none, .fields #[.str (Str.ofString "_law_row") 1119, .str (Str.ofString "_law_row") 1120, .str (Str.ofString "/claim/cut.py") 1121, .int 425 0, .int 0 0, .int 0 0, .int 0 0, .int 3 0, .ref 620, .bool true, .int 181 0, .ref 621, .none, .ref 622, .ref 623, .ref 624, .int 1122 0, .int 425 0, .str (Str.ofString "/claim/cut.py") 1123], #[]⟩) ::
  (nat_lit 626, ⟨.type "function", none, .func (fnOf (Str.ofString "_law_row") (Str.ofString "_law_row") f20P f20B f20S .none .none .none (.str (Str.ofString "law_jj0020_01") 1111) none (.ref 625) .none), #[]⟩) ::
  (nat_lit 632, ⟨.type "code", none, .fields #[.str (Str.ofString "_law_written") 1125, .str (Str.ofString "_law_written") 1126, .str (Str.ofString "/claim/cut.py") 1127, .int 427 0, .int 1 0, .int 0 0, .int 0 0, .int 3 0, .ref 627, .bool true, .int 181 0, .ref 628, .none, .ref 629, .ref 630, .ref 631, .int 1131 0, .int 427 0, .str (Str.ofString "/claim/cut.py") 1132], #[]⟩) ::
  (nat_lit 633, ⟨.type "function", none, .func (fnOf (Str.ofString "_law_written") (Str.ofString "_law_written") f21P f21B f21S .none .none .none (.str (Str.ofString "law_jj0020_01") 1111) none (.ref 632) .none), #[]⟩) ::
  (nat_lit 639, ⟨.type "code", none, .fields #[.str (Str.ofString "_law_plain") 1134, .str (Str.ofString "_law_plain") 1135, .str (Str.ofString "/claim/cut.py") 1136, .int 435 0, .int 1 0, .int 0 0, .int 0 0, .int 3 0, .ref 634, .bool true, .int 181 0, .ref 635, .none, .ref 636, .ref 637, .ref 638, .int 1144 0, .int 435 0, .str (Str.ofString "/claim/cut.py") 1145], #[]⟩) ::
  (nat_lit 640, ⟨.type "function", none, .func (fnOf (Str.ofString "_law_plain") (Str.ofString "_law_plain") f22P f22B f22S .none .none .none (.str (Str.ofString "law_jj0020_01") 1111) none (.ref 639) .none), #[]⟩) ::
  (nat_lit 644, ⟨.type "code", none, .fields #[.str (Str.ofString "_law_octets") 1147, .str (Str.ofString "_law_octets") 1148, .str (Str.ofString "/claim/cut.py") 1149, .int 456 0, .int 2 0, .int 0 0, .int 0 0, .int 3 0, .ref 641, .bool true, .int 181 0, .ref 642, .none, .none, .none, .ref 643, .int 1150 0, .int 456 0, .str (Str.ofString "/claim/cut.py") 1151], #[]⟩) ::
  (nat_lit 645, ⟨.type "function", none, .func (fnOf (Str.ofString "_law_octets") (Str.ofString "_law_octets") f23P f23B f23S .none .none .none (.str (Str.ofString "law_jj0020_01") 1111) none (.ref 644) .none), #[]⟩) ::
  (nat_lit 651, ⟨.type "code", none, .fields #[.str (Str.ofString "_law_record") 1153, .str (Str.ofString "_law_record") 1154, .str (Str.ofString "/claim/cut.py") 1155, .int 459 0, .int 2 0, .int 0 0, .int 0 0, .int 3 0, .ref 646, .bool true, .int 181 0, .ref 647, .none, .ref 648, .ref 649, .ref 650, .int 1158 0, .int 459 0, .str (Str.ofString "/claim/cut.py") 1159], #[]⟩) ::
  (nat_lit 652, ⟨.type "function", none, .func (fnOf (Str.ofString "_law_record") (Str.ofString "_law_record") f24P f24B f24S .none .none .none (.str (Str.ofString "law_jj0020_01") 1111) none (.ref 651) .none), #[]⟩) ::
  (nat_lit 658, ⟨.type "code", none, .fields #[.str (Str.ofString "_law_laid") 1161, .str (Str.ofString "_law_laid") 1162, .str (Str.ofString "/claim/cut.py") 1163, .int 461 0, .int 2 0, .int 0 0, .int 0 0, .int 3 0, .ref 653, .bool true, .int 181 0, .ref 654, .none, .ref 655, .ref 656, .ref 657, .int 1167 0, .int 461 0, .str (Str.ofString "/claim/cut.py") 1168], #[]⟩) ::
  (nat_lit 659, ⟨.type "function", none, .func (fnOf (Str.ofString "_law_laid") (Str.ofString "_law_laid") f25P f25B f25S .none .none .none (.str (Str.ofString "law_jj0020_01") 1111) none (.ref 658) .none), #[]⟩) ::
  (nat_lit 663, ⟨.type "code", none, .fields #[.str (Str.ofString "_law_numbered") 1170, .str (Str.ofString "_law_numbered") 1171, .str (Str.ofString "/claim/cut.py") 1172, .int 465 0, .int 3 0, .int 0 0, .int 0 0, .int 3 0, .ref 660, .bool true, .int 181 0, .ref 661, .none, .none, .none, .ref 662, .int 1173 0, .int 465 0, .str (Str.ofString "/claim/cut.py") 1174], #[]⟩) ::
  (nat_lit 664, ⟨.type "function", none, .func (fnOf (Str.ofString "_law_numbered") (Str.ofString "_law_numbered") f26P f26B f26S .none .none .none (.str (Str.ofString "law_jj0020_01") 1111) none (.ref 663) .none), #[]⟩) ::
  (nat_lit 668, ⟨.type "code", none, .fields #[.str (Str.ofString "law") 1176, .str (Str.ofString "law") 1177, .str (Str.ofString "/claim/cut.py") 1178, .int 476 0, .int 1 0, .int 0 0, .int 0 0, .int 3 0, .ref 665, .bool true, .int 181 0, .ref 666, .none, .none, .none, .ref 667, .int 1179 0, .int 476 0, .str (Str.ofString "/claim/cut.py") 1180], #[]⟩) ::
  (nat_lit 669, ⟨.type "function", none, .func (fnOf (Str.ofString "law") (Str.ofString "law") f27P f27B f27S .none .none .none (.str (Str.ofString "law_jj0020_01") 1111) none (.ref 668) .none), #[]⟩) ::
  []
noncomputable def KA : List Addr := [2, 3, 25, 30, 37, 38, 40, 41, 53, 54, 74, 75, 87, 88, 96, 97, 101, 102, 106, 107, 118, 119, 125, 126, 134, 135, 141, 142, 148, 149, 162, 163, 172, 179, 180, 186, 187, 193, 194, 207, 208, 210, 212, 218, 219, 221, 228, 229, 231, 236, 237, 239, 242, 243, 255, 256, 262, 263, 269, 270, 280, 311, 325, 326, 360, 361, 388, 389, 416, 417, 423, 424, 430, 431, 451, 452, 458, 459, 465, 466, 488, 494, 495, 522, 523, 532, 533, 545, 590, 607, 608, 618, 619, 625, 626, 632, 633, 639, 640, 644, 645, 651, 652, 658, 659, 663, 664, 668, 669]
noncomputable def VW : Program := view PW [27]
noncomputable abbrev LO : List Str := [Str.ofString "_wall", Str.ofString "PyFATException", Str.ofString "BrokenLFNEntryException", Str.ofString "NotAFatEntryException", Str.ofString "errno", Str.ofString "FAT_OEM_ENCODING", Str.ofString "encoded", Str.ofString "encoded_or_marked", Str.ofString "decoded", Str.ofString "decoded16", Str.ofString "splitext", Str.ofString "init_check", Str.ofString "EightDotThree", Str.ofString "FATDirectoryEntry", Str.ofString "FATLongDirectoryEntry", Str.ofString "_law_heads", Str.ofString "_law_row", Str.ofString "_law_written", Str.ofString "_law_plain", Str.ofString "_law_octets", Str.ofString "_law_record", Str.ofString "_law_laid", Str.ofString "_law_numbered"]
noncomputable def bootT (w : World) (os : OsState) : SharedT :=
  ⟨.node (boot_o_0 w.params) (.node (boot_o_1 w.params) (.node (boot_o_3 w.params) (.node (boot_o_7 w.params) .nil .nil) .nil) (.node (boot_o_5 w.params) (.node (boot_o_9 w.params) .nil .nil) .nil))
    (.node (boot_o_2 w.params) (.node (boot_o_4 w.params) (.node (boot_o_8 w.params) .nil .nil) .nil) (.node (boot_o_6 w.params) (.node (boot_o_10 w.params) .nil .nil) .nil)), 11, {}, #[], boot_drawn, boot_toks, os⟩
theorem boot_abs (w : World) (os : OsState) : (bootT w os).abs = ⟨boot_heap w.params, Array.mk [], boot_drawn, boot_toks, os⟩ := rfl
theorem size1 : ∀ w : World, ((boot_heap w.params).isNs mainGlobals && (Array.mk [] : Array GenState).size == 0, (boot_heap w.params).objs.size, (boot_heap w.params).nsMap mainGlobals "__annotations__") = (true, 11, some (.ref 6)) := fun w => by
  kernel_rfl
noncomputable abbrev HK : Hook := kmHook KK KA (fun _ => by kernel_rfl) [234]
theorem run1 : ∀ (w : World) (os : OsState), (PySem.W.Fast.tw10110043849684766642 PySem.W.Fast.tw14364793385576792824 PW w 11 (some (.ref 6)) 0 5500 (bootT w os) (topStub PW)).map (fun r =>
        ((staticsOk [] (boot_heap w.params) r.2.1.abs.heap && namesBound PW r.2.1.abs.heap && gensDone r.2.1.abs && laidKept (boot_heap w.params) r.2.1.abs.heap),
          PySem.W.Fast.tw4187177175401517315 VW LO [] (fun s => xlAt VW [] s && recOk [] s) true r.2.1.abs, (KA.map r.2.1.abs.heap.get?, [234].map r.2.1.abs.heap.get?))) = some (true, openGood VW LO, ((KK w.params).map fun p => some p.2, [234].map fun _ => some (tabObj #[]))) := fun w os => by kernel_rfl
theorem said0 : PySem.W.Fast.tw9446332074065402090 PySem.Challenge.rw_jj0020_01 = true := by kernel_rfl
theorem said : PySem.Challenge.rw_jj0020_01.wellSaid = true := by rw [show @OpenLaw.wellSaid = _ from PySem.W.Fast.te9446332074065402090]; exact said0
theorem fence1 : ∀ s, fenceModules? PW s = some s := fun s => rfl
theorem opens1 : opening PW = plainProg PW.main.scope.names := by kernel_rfl
theorem left1 : LeftO PW VW LO (fun s => xlAt VW [] s && recOk [] s) HK.obs HK.val 5600 :=
  left_one (mods := []) (by kernel_rfl) (boot_open opens1 (by decide) fence1) size1 boot_abs (M := 5500) (by decide) (fun w os => by
    have h := run1 w os
    rw [← show @segRunT = _ from PySem.W.Fast.te10110043849684766642, ← show @treeTable = _ from PySem.W.Fast.te14364793385576792824, ← show @openSeen = _ from PySem.W.Fast.te4187177175401517315] at h
    exact h)
noncomputable def fdPos (i : Nat) : Pos := match PW.main.body[i]? with
  | some (.FunctionDef _ _ _ _ _ _ _ _ _ pos) => pos
  | _ => default
noncomputable abbrev lawD : DefRec := ⟨Str.ofString "law", f27P, f27B, f27S, lit (fdPos 27) _ (by conv => lhs; whnf)⟩
theorem hd (walk : WalkO VW LO (XL VW []) HK.says PySem.Challenge.rw_jj0020_01.row.toRowW lawD [] (fun f vs => PySem.call f vs)) : PySem.Challenge.rw_jj0020_01.Holds := by
  refine holds_law said fun said => ?_
  refine holds_open (q := VW) (loose := LO) (Xt := fun s => xlAt VW [] s && recOk [] s) (XP := XL VW []) (Yf := HK.obs) (Ya := HK.val) (YP := HK.says) (N := 5600) (d := lawD) (kwd := []) left1 HK.of HK.keeps (fun s e => xl_of s (Bool.and_eq_true_iff.mp e).1) XL.keeps ?_ ?_ ?_ (fun s e => recFacts_of (Bool.and_eq_true_iff.mp e).2) (by rfl) said ?_ ⟨rfl, rfl, rfl, rfl, rfl, by decide +kernel⟩ ?hw walk
  · kernel_rfl
  · kernel_rfl
  · kernel_rfl
  · decide +kernel
  case hw => w_witness2
section
noncomputable abbrev PR : Program := PySem.Challenge.rw_jj0020_01.row.prog
theorem fillK : PySem.Challenge.rw_jj0020_01 = PySem.Challenge.rw_jj0020_01 ∧ KK = KK := by k_fill; exact ⟨rfl, rfl⟩

/-! ## things that are, taken or given at one stroke (each costs its goal but once) -/
theorem ex2 {α β : Type} {p : α → β → Prop} {Z : Prop} (z : ∃ a b, p a b) (k : ∀ a b, p a b → Z) : Z := let ⟨a, b, q⟩ := z; k a b q
theorem xi2 {α β : Type} {p : α → β → Prop} (a : α) (b : β) (q : p a b) : ∃ a b, p a b := ⟨a, b, q⟩
theorem ex3 {α β γ : Type} {p : α → β → γ → Prop} {Z : Prop} (z : ∃ a b c, p a b c) (k : ∀ a b c, p a b c → Z) : Z := let ⟨a, b, c, q⟩ := z; k a b c q
theorem xi3 {α β γ : Type} {p : α → β → γ → Prop} (a : α) (b : β) (c : γ) (q : p a b c) : ∃ a b c, p a b c := ⟨a, b, c, q⟩
theorem ex4 {α β γ δ : Type} {p : α → β → γ → δ → Prop} {Z : Prop} (z : ∃ a b c d, p a b c d) (k : ∀ a b c d, p a b c d → Z) : Z := let ⟨a, b, c, d, q⟩ := z; k a b c d q
theorem xi4 {α β γ δ : Type} {p : α → β → γ → δ → Prop} (a : α) (b : β) (c : γ) (d : δ) (q : p a b c d) : ∃ a b c d, p a b c d := ⟨a, b, c, d, q⟩
theorem ex5 {α β γ δ ε : Type} {p : α → β → γ → δ → ε → Prop} {Z : Prop} (z : ∃ a b c d e, p a b c d e) (k : ∀ a b c d e, p a b c d e → Z) : Z := let ⟨a, b, c, d, e, q⟩ := z; k a b c d e q
theorem xi5 {α β γ δ ε : Type} {p : α → β → γ → δ → ε → Prop} (a : α) (b : β) (c : γ) (d : δ) (e : ε) (q : p a b c d e) : ∃ a b c d e, p a b c d e := ⟨a, b, c, d, e, q⟩
theorem ex6 {α β γ δ ε ζ : Type} {p : α → β → γ → δ → ε → ζ → Prop} {Z : Prop} (z : ∃ a b c d e f, p a b c d e f) (k : ∀ a b c d e f, p a b c d e f → Z) : Z := let ⟨a, b, c, d, e, f, q⟩ := z; k a b c d e f q
theorem xi6 {α β γ δ ε ζ : Type} {p : α → β → γ → δ → ε → ζ → Prop} (a : α) (b : β) (c : γ) (d : δ) (e : ε) (f : ζ) (q : p a b c d e f) : ∃ a b c d e f, p a b c d e f := ⟨a, b, c, d, e, f, q⟩
theorem ex7 {α β γ δ ε ζ η : Type} {p : α → β → γ → δ → ε → ζ → η → Prop} {Z : Prop} (z : ∃ a b c d e f g, p a b c d e f g) (k : ∀ a b c d e f g, p a b c d e f g → Z) : Z := let ⟨a, b, c, d, e, f, g, q⟩ := z; k a b c d e f g q
theorem xi7 {α β γ δ ε ζ η : Type} {p : α → β → γ → δ → ε → ζ → η → Prop} (a : α) (b : β) (c : γ) (d : δ) (e : ε) (f : ζ) (g : η) (q : p a b c d e f g) : ∃ a b c d e f g, p a b c d e f g := ⟨a, b, c, d, e, f, g, q⟩
theorem ex8 {α β γ δ ε ζ η θ : Type} {p : α → β → γ → δ → ε → ζ → η → θ → Prop} {Z : Prop} (z : ∃ a b c d e f g h, p a b c d e f g h) (k : ∀ a b c d e f g h, p a b c d e f g h → Z) : Z := let ⟨a, b, c, d, e, f, g, h, q⟩ := z; k a b c d e f g h q
theorem xi8 {α β γ δ ε ζ η θ : Type} {p : α → β → γ → δ → ε → ζ → η → θ → Prop} (a : α) (b : β) (c : γ) (d : δ) (e : ε) (f : ζ) (g : η) (h : θ) (q : p a b c d e f g h) : ∃ a b c d e f g h, p a b c d e f g h := ⟨a, b, c, d, e, f, g, h, q⟩
theorem an2 {a b Z : Prop} (z : a ∧ b) (k : a → b → Z) : Z := k z.1 z.2
theorem an3 {a b c Z : Prop} (z : a ∧ b ∧ c) (k : a → b → c → Z) : Z := k z.1 z.2.1 z.2.2
theorem ai3 {a b c : Prop} (h1 : a) (h2 : b) (h3 : c) : a ∧ b ∧ c := ⟨h1, h2, h3⟩
theorem an4 {a b c d Z : Prop} (z : a ∧ b ∧ c ∧ d) (k : a → b → c → d → Z) : Z := k z.1 z.2.1 z.2.2.1 z.2.2.2
theorem ai4 {a b c d : Prop} (h1 : a) (h2 : b) (h3 : c) (h4 : d) : a ∧ b ∧ c ∧ d := ⟨h1, h2, h3, h4⟩
theorem an5 {a b c d e Z : Prop} (z : a ∧ b ∧ c ∧ d ∧ e) (k : a → b → c → d → e → Z) : Z := k z.1 z.2.1 z.2.2.1 z.2.2.2.1 z.2.2.2.2
theorem ai5 {a b c d e : Prop} (h1 : a) (h2 : b) (h3 : c) (h4 : d) (h5 : e) : a ∧ b ∧ c ∧ d ∧ e := ⟨h1, h2, h3, h4, h5⟩
theorem an6 {a b c d e f Z : Prop} (z : a ∧ b ∧ c ∧ d ∧ e ∧ f) (k : a → b → c → d → e → f → Z) : Z := k z.1 z.2.1 z.2.2.1 z.2.2.2.1 z.2.2.2.2.1 z.2.2.2.2.2
theorem ai6 {a b c d e f : Prop} (h1 : a) (h2 : b) (h3 : c) (h4 : d) (h5 : e) (h6 : f) : a ∧ b ∧ c ∧ d ∧ e ∧ f := ⟨h1, h2, h3, h4, h5, h6⟩
theorem an7 {a b c d e f g Z : Prop} (z : a ∧ b ∧ c ∧ d ∧ e ∧ f ∧ g) (k : a → b → c → d → e → f → g → Z) : Z := k z.1 z.2.1 z.2.2.1 z.2.2.2.1 z.2.2.2.2.1 z.2.2.2.2.2.1 z.2.2.2.2.2.2
theorem ai7 {a b c d e f g : Prop} (h1 : a) (h2 : b) (h3 : c) (h4 : d) (h5 : e) (h6 : f) (h7 : g) : a ∧ b ∧ c ∧ d ∧ e ∧ f ∧ g := ⟨h1, h2, h3, h4, h5, h6, h7⟩
theorem an8 {a b c d e f g h Z : Prop} (z : a ∧ b ∧ c ∧ d ∧ e ∧ f ∧ g ∧ h) (k : a → b → c → d → e → f → g → h → Z) : Z := k z.1 z.2.1 z.2.2.1 z.2.2.2.1 z.2.2.2.2.1 z.2.2.2.2.2.1 z.2.2.2.2.2.2.1 z.2.2.2.2.2.2.2
theorem ai8 {a b c d e f g h : Prop} (h1 : a) (h2 : b) (h3 : c) (h4 : d) (h5 : e) (h6 : f) (h7 : g) (h8 : h) : a ∧ b ∧ c ∧ d ∧ e ∧ f ∧ g ∧ h := ⟨h1, h2, h3, h4, h5, h6, h7, h8⟩
theorem an9 {a b c d e f g h i Z : Prop} (z : a ∧ b ∧ c ∧ d ∧ e ∧ f ∧ g ∧ h ∧ i) (k : a → b → c → d → e → f → g → h → i → Z) : Z := k z.1 z.2.1 z.2.2.1 z.2.2.2.1 z.2.2.2.2.1 z.2.2.2.2.2.1 z.2.2.2.2.2.2.1 z.2.2.2.2.2.2.2.1 z.2.2.2.2.2.2.2.2
theorem ai9 {a b c d e f g h i : Prop} (h1 : a) (h2 : b) (h3 : c) (h4 : d) (h5 : e) (h6 : f) (h7 : g) (h8 : h) (h9 : i) : a ∧ b ∧ c ∧ d ∧ e ∧ f ∧ g ∧ h ∧ i := ⟨h1, h2, h3, h4, h5, h6, h7, h8, h9⟩
theorem an10 {a b c d e f g h i j Z : Prop} (z : a ∧ b ∧ c ∧ d ∧ e ∧ f ∧ g ∧ h ∧ i ∧ j) (k : a → b → c → d → e → f → g → h → i → j → Z) : Z := k z.1 z.2.1 z.2.2.1 z.2.2.2.1 z.2.2.2.2.1 z.2.2.2.2.2.1 z.2.2.2.2.2.2.1 z.2.2.2.2.2.2.2.1 z.2.2.2.2.2.2.2.2.1 z.2.2.2.2.2.2.2.2.2
theorem ai10 {a b c d e f g h i j : Prop} (h1 : a) (h2 : b) (h3 : c) (h4 : d) (h5 : e) (h6 : f) (h7 : g) (h8 : h) (h9 : i) (h10 : j) : a ∧ b ∧ c ∧ d ∧ e ∧ f ∧ g ∧ h ∧ i ∧ j := ⟨h1, h2, h3, h4, h5, h6, h7, h8, h9, h10⟩
/-- the goal behind a letter -/
theorem hideG {G : Prop} (k : ∀ Z : Prop, (G → Z) → Z) : G := k G id
theorem all_c {α : Type} {p : α → Prop} {a : α} {l : List α} (h : p a) (t : ∀ q ∈ l, p q) : ∀ q ∈ a :: l, p q := List.forall_mem_cons.2 ⟨h, t⟩
theorem all_a {α : Type} {p : α → Prop} {l r : List α} (h : ∀ q ∈ l, p q) (t : ∀ q ∈ r, p q) : ∀ q ∈ l ++ r, p q := List.forall_mem_append.2 ⟨h, t⟩
theorem all_n {α : Type} {p : α → Prop} : ∀ q ∈ ([] : List α), p q := fun _ h => nomatch h
/-- a frame's map by what is known of it -/
noncomputable def fo (l : List (Str × Value)) (u : Str → Option Value) : Str → Option Value := fun y => match l.lookup y with
  | some v => some v
  | none => u y
theorem fo_nil {u : Str → Option Value} : fo [] u = u := rfl
theorem fo_cons {l : List (Str × Value)} {u : Str → Option Value} {x : Str} {v : Value} (h : u x = some v) (e : fo l u = u) : fo ((x, v) :: l) u = u := by
  funext y
  show (match ((x, v) :: l).lookup y with | some v => some v | none => u y) = u y
  rw [List.lookup_cons]
  cases q : y == x with
  | true => rw [beq_iff_eq.mp q]; exact h.symm
  | false => exact congrFun e y

/-- the kit's rule for a def's call, its premises in the order in which they are found -/
theorem code_defR {prog : Program} {w : World} {A A₀ : Around} {s : Shared} {K : Frag} {L : Addr} {h₀ base : Heap} {m : Str → Option Value} {mg mb : Str → Option Value} {news : List (Addr × Obj)} {p : Program} {loose : List Str} {mean : ExcName → Option Value}
    {env : Env} {outer : List Env} {R : Result → Shared → Prop} {name qual : Str} {params : Arguments} {body : List Stmt} {scope : Scope} {dV kV doc pm cdv ct oc : Value} {an od : Option Addr} {osl : Array (Option Value)} {f : Addr} {args : Args} {binds : List (Str × Value)}
    (hA : A.frames = some (env :: outer)) (hf : env.frame = some L) (hke : env.scope.kind = .function) (B : Below A₀ base outer h₀) (F : Fr h₀ L s.heap m) (X₀ : K.In h₀) (N : News h₀ L s.heap news) (T : Top p loose mean mg mb h₀)
    (ho : K.lookup f = some ⟨oc, od, .func (fnOf name qual params body scope dV kV doc pm an cdv ct), osl⟩) (hcd : codeIn K cdv qual = true) (hroom : A.depth < recursionLimit)
    (hbind : BindsTo s (fnOf name qual params body scope dV kV doc pm an cdv ct) args binds) (hloc : ∀ y ∈ binds, scope.names.lookup y.1 = some .local)
    (h : ∀ g L' h₁, Fr h₀ L g m → Fr g L' h₁ (fun y => binds.reverse.lookup y) → News g L' h₁ news → Below A base (env :: outer) g → K.In g → Top p loose mean mg mb g →
      wpAny (model prog w) (A.deeper (envOf qual scope L' f cdv)) (execs body (envOf qual scope L' f cdv))
        (fun fl s' => LeaveK h₀ L m g R (match fl with | .ret v => v | _ => .none) s')
        (fun e s' => wpAny (model prog w) (A.deeper (envOf qual scope L' f cdv)) (leaving (envOf qual scope L' f cdv) e) (fun _ s'' => R (.error e) s'') (fun e' s'' => R (.error e') s'') s')
        { s with heap := h₁, toks := s.toks + binds.length })
    (hco : scope.isCoroutine = false) (hgen : scope.isGenerator = false) (hk : scope.kind = .function)
    (hcell : ∀ x ∈ scope.names, x.2 ≠ .cell) : codeAny (model prog w) A (.call (.ref f) args) R s :=
  code_def B F X₀ N T hA hf hke ho hcd hroom hbind hloc h hco hgen hk hcell

noncomputable def nthSt (l : List Stmt) (i : Nat) : Stmt := match l[i]? with
  | some st => st
  | none => .Pass default
theorem room0 {a b R : Nat} (h : a + b < R) : a < R := Nat.lt_of_le_of_lt (Nat.le_add_right a b) h
theorem room1 {a b c R : Nat} (h : a + b < R) (hc : c ≤ b) : a + c < R := Nat.lt_of_le_of_lt (Nat.add_le_add_left hc a) h
theorem room2 {a b c d R : Nat} (h : a + b < R) (hc : c + d ≤ b) : a + c + d < R := by rw [Nat.add_assoc]; exact room1 h hc
theorem room3 {a b c d e R : Nat} (h : a + b < R) (hc : c + d + e ≤ b) : a + c + d + e < R := by rw [Nat.add_assoc, Nat.add_assoc, ← Nat.add_assoc c]; exact room1 h hc
noncomputable abbrev ktrH (hdl : Option Value) (dp un : Nat) (gd : Option (List Code)) (cn : Str) (cs : Scope) (L a : Addr) (ccd : Value) (cl : List (Str × Addr)) (outer : List Env) : Around := { handled := hdl, depth := dp, frames := some (envX cn cs L a ccd cl :: outer), guards := gd, units := un }
theorem depth_mark (A : Around) (h : Option Value) : (A.mark h).depth = A.depth := rfl
theorem units_under_kw (A : Around) (C : Addr) (vals : List Value) (kw : List (Str × Value)) : (A.under (.builtin "type.__call__" ⟨.ref C :: vals, kw⟩)).units = A.units + 1 := rfl

variable {w : World} {mean : ExcName → Option Value} {mg mb : Str → Option Value} {dp un : Nat} {gd : Option (List Code)} {cn : Str} {cs : Scope} {a : Addr} {ccd : Value} {cl : List (Str × Addr)} {outer : List Env} {A₀ : Around} {base h₀ : Heap} {L : Addr} {m : Str → Option Value} {news : List (Addr × Obj)} {s : Shared} {Q E : Value → Shared → Prop}
end
theorem layj_1 : True := by
  k_with_none
  k_with "my:n" => (first | (first | k_asm | (refine' cb_drop (by assumption) (by kcj_all))) | fail)
  k_with "my:lt" => (first | (first | assumption | (intro p9 hp9; (refine ktn_ltOf ?_ p9 hp9); (simp only [AllLt, and_true] at *); first | assumption | (simp_all only [and_self]; done))) | fail)
  k_with "my:room" => (first | (first | exact room1 hd (by decide) | exact room2 hd (by decide) | exact room3 hd (by decide) | exact room0 hd | exact room1 hu (by decide) | exact room2 hu (by decide) | exact room3 hu (by decide) | exact room0 hu) | ((try simp only [depth_under_make, depth_under_kw, depth_in1, depth_deeper, depth_mark, depth_caller, units_under_make, units_under_kw, units_in1, units_deeper, Around.mark_units, units_caller]); (try dsimp only [ktrTop, ktrH]); first | (first | exact room1 hd (by decide) | exact room2 hd (by decide) | exact room3 hd (by decide) | exact room0 hd | exact room1 hu (by decide) | exact room2 hu (by decide) | exact room3 hu (by decide) | exact room0 hu) | omega | decide | (simp only [recursionLimit, cLine] at *; omega)) | fail)
  k_with "my:in" => (first | (refine wpAny_call ?_; k_dflt cell_enter) | fail)
  k_with "my:enter" => (first | (refine' code_defR (by exact rfl) (by exact rfl) (by first | with_reducible assumption | exact rfl | assumption) (by k_asm) (by k_asm) (by k_asm) (by k_asm) (by k_asm) (by k_is) (by k_is) (by walk_at "my:room") (by first | exact BindsTo.of_eq rfl | exact binds_K (by k_in) rfl (by k_is) rfl rfl rfl | fail "my:enter: no rule for these arguments") (by exact locs rfl) ?_ (by exact rfl) (by exact rfl) (by exact rfl) (by decide); k_whole; intro g' L' h' FG' F' N' B' X' T'; (try dsimp only); (try k_lift B'); (try k_fold)) | fail)
  k_with "call ref" => (first | (k_here; k_dflt (first | (refine' call_cls (by k_asm) (by k_asm) (by k_asm) (by k_is) (by k_is) (by k_is) ?_; k_whole; intro x' d' h' F' N' l1 l2; (try k_lt l1); (try k_lt2 l2); (try k_sweep); walk_at "my:enter") | (refine' call_meth (by k_asm) (by k_mem) ?_; k_whole; walk_at "my:enter") | (refine wpAny_call ?_; walk_at "my:enter"))) | fail)
  k_with "ite" => (first | (k_here; first | with_reducible refine ite_tt ?_ | with_reducible refine ite_ff ?_ | (with_reducible refine split_ine ?_ ?_ <;> intro _) | (with_reducible refine split_ieq ?_ ?_ <;> intro _) | with_reducible refine split_not ?_ | (refine split_dec ?_ ?_ <;> intro _ <;> (try k_fold) <;> (try dsimp only)) | (refine split_bool ?_ ?_ <;> intro _ <;> (try k_fold) <;> (try dsimp only))) | fail)
  k_with "ite" => (first | (k_here; k_openite; first | (refine ite_pos (by with_reducible assumption) ?_; walk_say "MY PRUNED"; (try k_fold); (try dsimp only)) | (refine ite_neg (by with_reducible assumption) ?_; walk_say "MY PRUNED"; (try k_fold); (try dsimp only)) | (k_spoken; first | (refine ite_pos (by (first | omega | (simp only [decide_eq_true_eq]; omega))) ?_; walk_say "MY PRUNED"; (try k_fold); (try dsimp only)) | (refine ite_neg (by (first | omega | (simp only [decide_eq_true_eq]; omega))) ?_; walk_say "MY PRUNED"; (try k_fold); (try dsimp only)))) | fail)
  k_with "ite" => (first | (k_closed; (first | (refine ite_neg (by decide) ?_) | (refine ite_pos (by decide) ?_)); (try k_fold); (try dsimp only)) | fail)
  k_with "execs cons" => (first | (k_here; k_fold; (try dsimp only); (try k_gentoks)) | fail)
  k_with "execs nil" => (first | (k_here; k_fold; (try dsimp only); (try k_gentoks)) | fail)
  k_with "eval Name" => (first | (k_here; (with_reducible show wpAny _ _ (eval (Expr.Name _ _) (envOf _ _ _ _ _)) _ _ _); k_dflt (refine' ld (by with_reducible assumption) (by exact rfl) ?_; k_whole)) | fail)
  k_with "InitBack" => (first | (k_here; dsimp only [InitBack]) | fail)
  k_with "my:p" => (first | (first | assumption | (and_intros <;> omega)) | fail)
  trivial
local macro_rules | `(tactic| walk_at $s:str) => `(tactic| k_extra $s)
variable {hdl : Option Value} {w : World} {mean : ExcName → Option Value} {mg mb : Str → Option Value} {dp un : Nat} {gd : Option (List Code)} {cn : Str} {cs : Scope} {a : Addr} {ccd : Value} {cl : List (Str × Addr)} {outer : List Env} {A₀ : Around} {base h₀ : Heap} {L : Addr} {m : Str → Option Value} {news : List (Addr × Obj)} {s : Shared} {Q E : Value → Shared → Prop}
/-! ## a place where the walk stops: a line may ask for its theorem's mark -/
def Stop (P : Prop) : Prop := P
def SMk (_ : Nat) : Prop := True
theorem Stop.at {P : Prop} (h : Stop P) : P := h
theorem layj_2 : True := by
  k_with "my:inS" => (first | (refine wpAny_call ?_; k_dflt (walk_at "my:enterS")) | fail)
  trivial
theorem turn_nil {g g' : Heap} (T : KtsTurn [] g g') : (∀ b o, g.get? b = some o → g'.get? b = some o) ∧ (∀ b, g'.get? b = none → g.get? b = none) ∧ g'.objs.size = g.objs.size :=
  ⟨fun b o e => T.other b o e (fun h => nomatch h), fun b e => kts_none (fun b o e => T.other b o e (fun h => nomatch h)) e, T.size⟩
theorem turn_fr {g g' h : Heap} {L : Addr} {m : Str → Option Value} (T : KtsTurn [] g g') (F : Fr g' L h m) : Fr g L h m := ⟨F.ns, fun b o e => F.keep b o ((turn_nil T).1 b o e), by rw [← (turn_nil T).2.2]; exact F.above⟩
theorem turn_news {g g' h : Heap} {L : Addr} {news : List (Addr × Obj)} (T : KtsTurn [] g g') (N : News g' L h news) : News g L h news := fun p hp => ⟨(N p hp).1, (N p hp).2.1, (turn_nil T).2.1 _ (N p hp).2.2⟩
local macro_rules | `(tactic| k_mem) => `(tactic| walk_at "my:mem")
theorem layj_3 : True := by
  k_with "my:item" => (first | (k_here; (with_reducible show wpAny _ _ (subscriptTail _ _ (Value.ref _) (Value.int _ _)) _ _ _); (with_unfolding_all refine' item_litK (by first | is_list | exact News.isList (by assumption) (by k_mem)) (by decide) (by decide) (by rfl) ?_ (by with_unfolding_all rfl); k_whole)) | fail)
  k_with "subscriptTail" => (first | (walk_at "my:item") | fail)
  k_with "subscriptTail Name Constant ref int" => (first | (walk_at "my:item") | fail)
  k_with "ite" => (first | (k_here; k_openite; (refine ite_pos (by first | exact rfl | exact decide_eq_true rfl) ?_); walk_say "MY RFL"; (try k_fold); (try dsimp only)) | fail)
  k_with "my:mem" => (first | (first | exact List.mem_cons_self | with_reducible assumption | ktr_member | (refine' List.mem_cons_of_mem _ ?_; walk_at "my:mem")) | fail)
  k_with "eval Name" => (first | (k_here; (with_reducible show wpAny _ _ (eval (Expr.Name _ _) (envOf _ _ _ _ _)) _ _ _); k_dflt (refine' ld (by with_reducible assumption) (by with_reducible assumption) ?_; k_whole)) | fail)
  trivial
theorem ba_end2 : "bytearray.__release_buffer__".endsWith ("." ++ "__release_buffer__") = true := by decide +kernel
theorem ba_drop2 : "bytearray.__release_buffer__".dropRight ("__release_buffer__".length + 1) = "bytearray" := by decide +kernel
theorem ba_lk_release : typeLookup (.type "bytearray") "__release_buffer__" = pure (some (.builtin "bytearray.__release_buffer__")) := by rw [typeLookup_type, builtinLookup_eq_fast]; kernel_rfl
theorem by_end1 : "bytes.__buffer__".endsWith ("." ++ "__buffer__") = true := by decide +kernel
theorem by_drop1 : "bytes.__buffer__".dropRight ("__buffer__".length + 1) = "bytes" := by decide +kernel
theorem ba_sub : isSubtype (.type "bytearray") (.type "bytearray") = pure true := by rw [isSubtype_type]; kernel_rfl
theorem by_sub : isSubtype (.type "bytes") (.type "bytes") = pure true := by rw [isSubtype_type]; kernel_rfl
theorem by_lk_buffer : typeLookup (.type "bytes") "__buffer__" = pure (some (.builtin "bytes.__buffer__")) := by rw [typeLookup_type, builtinLookup_eq_fast]; kernel_rfl
theorem by_lk_release : typeLookup (.type "bytes") "__release_buffer__" = pure none := by rw [typeLookup_type, builtinLookup_eq_fast]; kernel_rfl
theorem by_lk_index : typeLookup (.type "bytes") "__index__" = pure none := by rw [typeLookup_type, builtinLookup_eq_fast]; kernel_rfl
noncomputable abbrev baObj (b : Array UInt8) (n : Nat) : Obj := { cls := .type "bytearray", data := .bytearray b n }
section
variable {prog : Program} {w : World} {A : Around} {E : Value → Shared → Prop} {s : Shared}
theorem slot_own {v : Value} {T : String} {name : String} {id : String} {Q : Bool → Shared → Prop} (hT : s.TypeIs v T) (hl : typeLookup (.type T) (name : Str) = pure (some (.builtin id)))
    (he : id.endsWith ("." ++ name) = true) (hd : id.dropRight (name.length + 1) = T) (hs : isSubtype (.type T) (.type T) = pure true) (h : Q true s) : wpAny (model prog w) A (Builtin.Bytes.slotIsOwn v name) Q E s := by
  unfold Builtin.Bytes.slotIsOwn
  refine wpAny_bind (wpAny_specialOf hT hl ?_)
  dsimp only
  rw [he]
  refine bm_if_false rfl ?_
  rw [hd]
  exact wpAny_isInstance hT hs h
theorem slot_own_none {v : Value} {T : String} {name : String} {Q : Bool → Shared → Prop} (hT : s.TypeIs v T) (hl : typeLookup (.type T) (name : Str) = pure none) (h : Q true s) : wpAny (model prog w) A (Builtin.Bytes.slotIsOwn v name) Q E s := by
  unfold Builtin.Bytes.slotIsOwn
  refine wpAny_bind (wpAny_specialOf hT hl ?_)
  exact wpAny_pure h
theorem ba_type {S : Addr} {b : Array UInt8} {n : Nat} (ho : s.heap.get? S = some (baObj b n)) : s.TypeIs (.ref S) "bytearray" := ⟨_, ho, rfl⟩
theorem ba_payload {S : Addr} {b : Array UInt8} {n : Nat} {Q : Array UInt8 → Shared → Prop} (ho : s.heap.get? S = some (baObj b n)) (h : Q b s) : wpAny (model prog w) A (Builtin.Bytes.payload (.ref S)) Q E s := by
  unfold Builtin.Bytes.payload Builtin.Bytes.payload?
  exact wpAny_bind (wpAny_bind (wpAny_load ho (wpAny_pure (wpAny_pure h))))
theorem by_buffer {id : String} {b : Array UInt8} {t : Tok} {Q : Option (Array UInt8) → Shared → Prop} (h : Q (some b) s) :
    wpAny (model prog w) A (Builtin.Bytes.buffer? id (.bytes b t) true) Q E s := by
  have hT : s.TypeIs (.bytes b t) "bytes" := typeIs_bytes _ _ _
  unfold Builtin.Bytes.buffer?
  refine wpAny_bind (wpAny_specialOf hT by_lk_buffer ?_)
  dsimp only
  refine wpAny_bind (slot_own hT by_lk_buffer by_end1 by_drop1 by_sub ?_)
  refine bm_if_false rfl ?_
  refine wpAny_bind (wpAny_specialOf hT by_lk_buffer ?_)
  try dsimp only
  unfold Builtin.Bytes.ownRelease
  refine wpAny_bind (wpAny_bind (slot_own_none hT by_lk_release ?_))
  refine wpAny_pure ?_
  refine bm_if_false rfl ?_
  unfold Builtin.Bytes.payload Builtin.Bytes.payload?
  exact wpAny_bind (wpAny_bind (wpAny_pure (wpAny_pure (wpAny_pure h))))
end
theorem owner_ba : Manifest.owners.lookup (String.ofList ['y', 'a', 'r', 'r', 'a', 'e', 't', 'y', 'b'].reverse) = some Manifest.sig_bytearray := by kernel_rfl
theorem slot_ba_len : Slot "bytearray" "__len__" "bytearray.__len__" :=
  .of (owner := "bytearray") (n := "__len__") (by rw [typeLookup_type, builtinLookup_eq_fast]; kernel_rfl) (by decide +kernel) (by decide +kernel) (by decide +kernel)
    (by first | exact .inl (by decide +kernel) | exact .inr (by decide +kernel)) (by rw [isSubtype_type]; kernel_rfl)
theorem entry_ba_len : entryFor table "bytearray.__len__" = some Builtin.«bytearray.__len__» := entryFor_of_tree (by kernel_rfl)
theorem args_ba_len (a : Value) : argsOk "bytearray.__len__" ⟨[a], []⟩ := by
  unfold argsOk; rw [signature?_of (id := "bytearray.__len__") (n := ['_', '_', 'n', 'e', 'l', '_', '_']) (o := ['y', 'a', 'r', 'r', 'a', 'e', 't', 'y', 'b']) (by kernel_rfl) owner_ba]; kernel_rfl
theorem slot_ba_get : Slot "bytearray" "__getitem__" "bytearray.__getitem__" :=
  .of (owner := "bytearray") (n := "__getitem__") (by rw [typeLookup_type, builtinLookup_eq_fast]; kernel_rfl) (by decide +kernel) (by decide +kernel) (by decide +kernel)
    (by first | exact .inl (by decide +kernel) | exact .inr (by decide +kernel)) (by rw [isSubtype_type]; kernel_rfl)
theorem entry_ba_get : entryFor table "bytearray.__getitem__" = some Builtin.«bytearray.__getitem__» := entryFor_of_tree (by kernel_rfl)
theorem args_ba_get (a b : Value) : argsOk "bytearray.__getitem__" ⟨[a, b], []⟩ := by
  unfold argsOk; rw [signature?_of (id := "bytearray.__getitem__") (n := ['_', '_', 'm', 'e', 't', 'i', 't', 'e', 'g', '_', '_']) (o := ['y', 'a', 'r', 'r', 'a', 'e', 't', 'y', 'b']) (by kernel_rfl) owner_ba]; kernel_rfl
section
variable {prog : Program} {w : World} {A : Around} {E : Value → Shared → Prop} {s : Shared}
theorem ba_get_meets {S : Addr} {b : Array UInt8} {n : Nat} {k : Int} {u : Tok} {c : UInt8} (hr : Builtin.Bytes.fitsIndex k = true) (hc : (seqIndex? k b.size).bind (b[·]?) = some c) :
    Meets (Builtin.«bytearray.__getitem__» ⟨[.ref S, .int k u], []⟩) (fun _ R s => s.heap.get? S = some (baObj b n) ∧ R (.ok (.ret (.int c.toNat s.toks))) { s with toks := s.toks + 1 }) := by
  rintro prog w A R s ⟨ho, hR⟩
  show wpAny _ _ (Builtin.Bytes.subscript? (.int k u) >>= fun r => _) _ _ s
  refine wpAny_bind ?_
  unfold Builtin.Bytes.subscript?
  refine wpAny_bind (wpAny_specialOf (typeIs_int s k u) F.slot_int_index.lookup ?_)
  show wpAny _ _ (if (!Builtin.Bytes.fitsIndex k) = true then _ else pure (some k)) _ _ s
  rw [hr]
  refine wpAny_pure ?_
  refine wpAny_bind (ba_payload ho ?_)
  show wpAny _ _ (match (seqIndex? k b.size).bind (b[·]?) with | some x => _ | none => _) _ _ s
  rw [hc]
  exact wpAny_bind (wpAny_mkInt (wpAny_pure hR))
theorem ba_getItem {S : Addr} {b : Array UInt8} {n : Nat} {k : Int} {u : Tok} {c : UInt8} {Q : Value → Shared → Prop} (ho : s.heap.get? S = some (baObj b n)) (hr : Builtin.Bytes.fitsIndex k = true) (hc : (seqIndex? k b.size).bind (b[·]?) = some c)
    (h : Q (.int c.toNat s.toks) { s with toks := s.toks + 1 }) : wpAny (model prog w) A (getItem (.ref S) (.int k u)) Q E s :=
  getItem_meets (ba_type ho) (by decide) slot_ba_get entry_ba_get (args_ba_get _ _) (ba_get_meets hr hc) ⟨ho, h⟩
theorem ba_item {value slice : PySem.Expr} {S : Addr} {b : Array UInt8} {n : Nat} {k : Int} {u : Tok} {c : UInt8} {Q : Value → Shared → Prop} (ho : s.heap.get? S = some (baObj b n)) (hr : Builtin.Bytes.fitsIndex k = true) (hc : (seqIndex? k b.size).bind (b[·]?) = some c)
    (h : Q (.int c.toNat s.toks) { s with toks := s.toks + 1 }) (hs : subscripted slice false (.ref S) (.int k u) = operate [.ref S, .int k u] (getItem (.ref S) (.int k u)) := by with_unfolding_all rfl) :
    wpAny (model prog w) A (subscriptTail value slice (.ref S) (.int k u)) Q E s := tail_any (ba_type ho) slot_ba_get.lookup (ba_getItem ho hr hc h) hs
theorem ba_len {S : Addr} {b : Array UInt8} {n : Nat} {Q : Value → Shared → Prop} (ho : s.heap.get? S = some (baObj b n)) (hz : b.size < 2 ^ 40)
    (h : Q (.int b.size (s.toks + 1)) { s with toks := s.toks + 1 + 1 }) : wpAny (model prog w) A (call (.builtin "len") [.ref S]) Q E s := by
  refine Calls.call_function_entry kind_len plain_len entry_len (args_len1 _) ?_
  unfold Builtin.«len»
  refine wpAny_bind (m := oneArg "len" _) (wpAny_pure ?_)
  refine wpAny_bind (m := callSpecial? (.ref S) (Str.ofString "__len__")) (wpAny_callSpecial?_slot (name := Str.ofString "__len__") (ba_type ho) slot_ba_len
    (wpAny_call_entry slot_ba_len (ba_type ho) entry_ba_len ?_ (args_ba_len _)))
  show wpAny _ _ (do retInt (← Builtin.Bytes.payload (.ref S)).size) _ _ s
  refine wpAny_bind (ba_payload ho (wpAny_bind (wpAny_mkInt (wpAny_pure ⟨_, rfl, ?_⟩))))
  refine wpAny_bind (wpAny_holding (wpAny_pure ?_))
  refine wpAny_bind (wpAny_letGo ?_)
  show wpAny _ _ (if ((b.size : Nat) : Int) < 0 then _ else _) _ _ _
  rw [if_neg (by omega)]
  show wpAny _ _ (if ((b.size : Nat) : Int) ≥ 2 ^ 63 then _ else _) _ _ _
  rw [if_neg (by omega)]
  exact wpAny_bind (wpAny_mkInt (wpAny_pure ⟨_, rfl, h⟩))
end
theorem noI_bytes_add : typeLookup (.type "bytes") (dunderI "add") = pure none := by rw [typeLookup_type, builtinLookup_eq_fast]; kernel_rfl
section
variable {prog : Program} {w : World} {A : Around} {E : Value → Shared → Prop} {s : Shared} {b c : Array UInt8} {t u : Tok} {Q : Value → Shared → Prop} {ks ls : List Int}
theorem iadd_bytes (hsz : b.size + c.size ≤ 16777216) (h : ∀ t' k, Q (.bytes (b ++ c) t') { s with toks := k }) : wpAny (model prog w) A (inplaceOp .Add (.bytes b t) (.bytes c u)) Q E s := by
  refine iconcat_gives (typeIs_bytes s b t) (typeIs_bytes s c u) noI_bytes_add KBy.noFill_bytes_add KBy.seq_bytes_add FB.slot_bytes_add FB.entry_bytes_add (FB.args_bytes_add_2 _ _) (KBy.gives_bytes_add (KBy.tooLong_not hsz)) ?_
  by_cases hb : b.isEmpty = true
  · rw [if_pos hb]
    have e : b = #[] := Array.isEmpty_iff.1 hb
    have h' := h u s.toks
    rw [e, Array.empty_append] at h'
    exact h'
  · rw [if_neg hb]
    by_cases hc : c.isEmpty = true
    · rw [if_pos hc]
      have e : c = #[] := Array.isEmpty_iff.1 hc
      have h' := h t s.toks
      rw [e, Array.append_empty] at h'
      exact h'
    · rw [if_neg hc]
      refine ⟨?_, h _ _⟩
      have h1 := sizeLine_eq
      simp only [Array.size_append]
      omega
end
theorem layj_4 : True := by
  k_with "call builtin:len" => (first | (k_here; (with_reducible show wpAny _ _ (call (Value.builtin "len") [Value.ref _]) _ _ _); k_dflt (refine' ba_len (by exact News.get (by k_asm) (by k_mem)) (by first | omega | decide) ?_; k_whole)) | fail)
  k_with "my:baitem" => (first | (k_here; (with_reducible show wpAny _ _ (subscriptTail _ _ (Value.ref _) (Value.int _ _)) _ _ _); k_dflt (refine' ba_item (by exact News.get (by k_asm) (by k_mem)) (by decide) (by exact rfl) ?_ (by with_unfolding_all rfl); k_whole)) | fail)
  k_with "subscriptTail" => (first | (walk_at "my:baitem") | fail)
  k_with "subscriptTail Name Constant ref int" => (first | (walk_at "my:baitem") | fail)
  k_with "my:ints" => (first | (first | exact ints_nil | kba_ints | exact KBw.ints_list _) | fail)
  trivial
theorem item_T {prog : Program} {A : Around} {value slice : PySem.Expr} {l : Addr} {vs : List Value} {n : Nat} {k : Int} {u : Tok} {v : Value} {Q : Value → Shared → Prop} (N : News h₀ L s.heap news) (hm : (l, ({ cls := .type "tuple", data := .seq vs.toArray n } : Obj)) ∈ news) (h0 : 0 ≤ k) (hhi : k < 2 ^ 63) (hv : vs[k.toNat]? = some v)
    (h : Q v s) (hs : subscripted slice false (.ref l) (.int k u) = operate [.ref l, .int k u] (getItem (.ref l) (.int k u)) := by with_unfolding_all rfl) :
    wpAny (model prog w) A (subscriptTail value slice (.ref l) (.int k u)) Q E s := by
  have hl : IsTup s.heap l vs.toArray := ⟨_, (N _ hm).1, rfl, _, rfl⟩
  have hlt : k.toNat < vs.length := (List.getElem?_eq_some_iff.mp hv).1
  refine item_tupleT hl (by omega) hhi (j := k.toNat) ?_ hv h hs
  have h1 : ¬ (k < 0) := by omega
  unfold seqIndex?
  simp only [if_neg h1]
  rw [if_pos (by simp; omega)]
theorem layj_5 : True := by
  k_with "my:itemT" => (first | (k_here; (with_reducible show wpAny _ _ (subscriptTail _ _ (Value.ref _) (Value.int _ _)) _ _ _); k_dflt (refine' item_T (by k_asm) (by k_mem) (by decide) (by decide) (by exact rfl) ?_ (by with_unfolding_all rfl); k_whole); (try dsimp only); (try k_fold)) | fail)
  k_with "getMethod ref" => (first | (k_here; k_dflt (refine' kmu_sm (by k_asm) (by k_asm) (by k_inst) (by k_is) (by k_is) (by k_is) (by k_is) (by k_is) (by k_is) (by decide +kernel) (by k_get) (by k_is) (by k_handed) ?_; k_whole)) | fail)
  k_with "getMethod ref" => (first | (k_here; k_dflt (refine' method_inst ?k1 ?k2 ?k3 ?k4 ?k5 ?k6 ?k7 ?_; (case k1 => k_asm); (case k2 => k_asm); (case k3 => k_inst); (case k4 => k_is); (case k5 => k_is); (case k6 => k_is); (case k7 => k_get); k_whole)) | fail)
  k_with "getAttr ref" => (first | (k_here; k_dflt (refine' get_own ?k1 ?k2 ?k3 ?k4 ?k5 ?k6 ?k7 ?k8 ?k9 ?_; (case k1 => k_asm); (case k2 => k_asm); (case k3 => k_inst); (case k4 => k_is); (case k5 => k_is); (case k6 => k_is); (case k7 => k_is); (case k8 => k_get); (case k9 => k_handed); k_whole)) | fail)
  k_with "getMethod str" => (first | (k_here; first | (with_reducible refine GM.upper ?_) | (with_reducible refine GM.strip ?_)) | fail)
  k_with "subscriptTail Name Constant ref int" => (first | (k_extra "subscriptTail") | fail)
  k_with "subscriptTail Name BinOp ref int" => (first | (k_extra "subscriptTail") | fail)
  k_with "subscriptTail Name Name ref int" => (first | (k_extra "subscriptTail") | fail)
  k_with "subscriptTail Call" => (first | (k_extra "subscriptTail") | fail)
  k_with "subscriptTail Subscript" => (first | (k_extra "subscriptTail") | fail)
  k_with "subscriptTail" => (first | (walk_at "my:itemT") | fail)
  trivial
/-! ## walks from a stack that holds no call that keeps a bytearray -/
noncomputable def keepers : List String := ["bytearray.__contains__", "bytearray.__mod__", "bytearray.__rmod__", "_struct.pack_into.held", "bytearray.find.held"] ++ Builtin.Bytes.decodersThatHold
noncomputable def calm : Code → Bool
  | .builtin id _ => !keepers.contains id
  | _ => true
def Calm (Γ : Ctx) : Prop := ∀ x ∈ Γ.below, calm x.1 = true
def wpC {α : Type} (M : Model) (A : Around) (t : Sem α) (Q : α → Shared → Prop) (s : Shared) : Prop :=
  ∀ Γ p, Γ.In A → calm Γ.code = true → Calm Γ → Sem.wp M Γ t (fun a _ s' => Q a s') (fun _ _ _ => False) p s
def codeC (M : Model) (A : Around) (c : Code) (R : Flow → Shared → Prop) (s : Shared) : Prop :=
  ∀ Γ p, Γ.code = c → Γ.Below A → Calm Γ → wpCode M Γ (fun r s' => match r with | .ok f => R f s' | .error _ => False) p s
section
variable {α β : Type} {M : Model} {A : Around} {s : Shared}
theorem wpC_of {t : Sem α} {Q : α → Shared → Prop} (h : wpAny M A t Q (fun _ _ => False) s) : wpC M A t Q s := fun Γ p hΓ _ _ => h Γ p hΓ
theorem wpC_mono {t : Sem α} {Q Q' : α → Shared → Prop} (h : wpC M A t Q s) (hQ : ∀ a s, Q a s → Q' a s) : wpC M A t Q' s :=
  fun Γ p hΓ c1 c2 => Sem.wp_mono M Γ t (fun a _ s => hQ a s) (fun _ _ _ h => h) p s (h Γ p hΓ c1 c2)
theorem wpC_bind {m : Sem α} {f : α → Sem β} {Q : β → Shared → Prop} (h : wpC M A m (fun a s' => wpC M A (f a) Q s') s) : wpC M A (m >>= f) Q s := fun Γ p hΓ c1 c2 => by
  rw [Sem.wp_bind']
  exact Sem.wp_mono M Γ m (fun a p' s' h' => h' Γ p' hΓ c1 c2) (fun _ _ _ h' => h') p s (h Γ p hΓ c1 c2)
theorem wpC_pure {a : α} {Q : α → Shared → Prop} (h : Q a s) : wpC M A (pure a) Q s := fun _ _ _ _ _ => h
theorem wpC_iteN {c : Prop} [Decidable c] {a b : Sem α} {Q : α → Shared → Prop} (hc : ¬ c) (h : wpC M A b Q s) : wpC M A (if c then a else b) Q s := by rw [if_neg hc]; exact h
theorem wpC_onRaise {m : Sem α} {k : Value → Sem Unit} {Q : α → Shared → Prop} (h : wpC M A m Q s) : wpC M A (m.onRaise k) Q s := fun Γ p hΓ c1 c2 => by
  rw [Sem.wp_onRaise]
  exact Sem.wp_mono M Γ m (fun _ _ _ h' => h') (fun _ _ _ h' => h'.elim) p s (h Γ p hΓ c1 c2)
theorem wpC_holding {vs : List Value} {m : Sem α} {Q : α → Shared → Prop} (h : wpC M A m Q s) : wpC M A (holding vs m) Q s :=
  fun Γ p hΓ c1 c2 => by rw [Sem.wp_holding]; exact h Γ p hΓ c1 c2
theorem wpC_standAt {pos : Pos} {Q : Unit → Shared → Prop} (h : Q () s) : wpC M A (standAt pos) Q s := wpC_of (wpAny_standAt h)
theorem wpC_stack {Q : List (Code × Pos) → Shared → Prop} (h : ∀ st, (∀ x ∈ st, calm x.1 = true) → Q st s) : wpC M A stack Q s := fun Γ p hΓ c1 c2 => by
  show Q ((Γ.code, p) :: Γ.below) s
  refine h _ fun x hx => ?_
  rcases List.mem_cons.mp hx with rfl | hx
  · exact c1
  · exact c2 x hx
theorem wpC_run {c : Code} {h : Option Value} {Q : Flow → Shared → Prop} (hc : codeC M (A.mark h) c Q s) (hnb : h ≠ some byPass := by intro x; cases x) : wpC M A (run c h) Q s :=
  fun Γ p hΓ c1 c2 => by
    rw [Sem.wp_run]
    refine wpCode_mono (fun r s' h' => ?_) (hc _ p rfl (hΓ.enter c h p hnb) (fun x hx => ?_))
    · cases r with
      | ok f => exact h'
      | error e => exact h'
    · rcases List.mem_cons.mp hx with rfl | hx
      · exact c1
      · exact c2 x hx
theorem wpC_runValue {c : Code} {Q : Value → Shared → Prop} (hc : codeC M A c (fun f s' => match f with | .ret v => Q v s' | _ => False) s) : wpC M A (runValue c) Q s :=
  fun Γ p hΓ c1 c2 => by
    rw [Sem.wp_runValue]
    refine wpCode_mono (fun r s' h' => ?_) (hc _ p rfl (hΓ.enter c none p (by intro x; cases x)) (fun x hx => ?_))
    · cases r with
      | ok f => cases f <;> exact h'
      | error e => exact h'
    · rcases List.mem_cons.mp hx with rfl | hx
      · exact c1
      · exact c2 x hx
theorem wpC_call {f : Value} {pos : List Value} {kw : List (Str × Value)} {Q : Value → Shared → Prop} (hc : codeC M A (.call f ⟨pos, kw⟩) (fun f s' => match f with | .ret v => Q v s' | _ => False) s) : wpC M A (call f pos kw) Q s := wpC_runValue hc
theorem codeC_of {c : Code} {R : Flow → Shared → Prop} (h : codeAny M A c (fun r s' => match r with | .ok f => R f s' | .error _ => False) s) : codeC M A c R s := fun Γ p hc hΓ _ => h Γ p hc hΓ
theorem codeC_of_tree {c : Code} {R : Flow → Shared → Prop} (hcalm : calm c = true) (h : wpC M (A.under c) (M.den c) (fun fin s' => match fin with | .done f => R f s' | .again c' => c'.quiet = true ∧ codeC M A c' R s') s) : codeC M A c R s := fun Γ p hc hΓ c2 => by
  rw [wpCode_iff_wp, hc]
  refine Sem.wp_mono M Γ _ (fun fin p' s' h' => ?_) (fun _ _ _ h' => h') p s (h Γ p (hc ▸ hΓ.in) (by rw [hc]; exact hcalm) c2)
  cases fin with
  | done f => exact h'
  | again c' => exact ⟨h'.1, h'.2 (Γ.goto c') p' rfl (hΓ.goto c') c2⟩
theorem wpC_execs_cons {env : Env} {st : Stmt} {rest : List Stmt} {Q : Flow → Shared → Prop} (h : wpC M A (exec st env) (fun f s' => match f with | .next => wpC M A (execs rest env) Q s' | f => Q f s') s) : wpC M A (execs (st :: rest) env) Q s := by
  rw [execs_cons]
  refine wpC_bind (wpC_mono h fun f s' h' => ?_)
  cases f <;> first | exact h' | exact wpC_pure h'
theorem wpC_execs_nil {env : Env} {Q : Flow → Shared → Prop} (h : Q .next s) : wpC M A (execs [] env) Q s := fun _ _ _ _ _ => h
end
section
variable {prog : Program} {w : World} {A : Around} {s : Shared}
theorem exported_no {S : Addr} {Q : Bool → Shared → Prop} {M : Model} (h : Q false s) : wpC M A (Builtin.Bytes.exported (.ref S)) Q s := by
  unfold Builtin.Bytes.exported
  refine wpC_bind (wpC_stack fun st hst => ?_)
  refine wpC_pure ?_
  have e : ∀ f : Code × Pos → Bool, (∀ x ∈ st, f x = false) → Q (st.any f) s := fun f hf => by
    rw [List.any_eq_false.mpr (fun x hx => by rw [hf x hx]; exact Bool.false_ne_true)]
    exact h
  refine e _ fun x hx => ?_
  have hc := hst x hx
  obtain ⟨c, p⟩ := x
  cases c with
  | builtin id args =>
    have h1 : id ∉ keepers := by
      have hc' : (!keepers.contains id) = true := hc
      rw [Bool.not_eq_true'] at hc'
      exact fun m => by rw [List.contains_iff_mem.mpr m] at hc'; cases hc'
    have n : ∀ y ∈ keepers, id ≠ y := fun y hy e => h1 (e ▸ hy)
    have h2 : Builtin.Bytes.decodersThatHold.contains id = false := by
      cases q : Builtin.Bytes.decodersThatHold.contains id with
      | false => rfl
      | true => exact absurd (List.mem_append_right _ (List.contains_iff_mem.mp q)) h1
    obtain ⟨pos, kw⟩ := args
    delta Builtin.Bytes.exported.match_1
    refine Eq.trans (dif_neg (n "bytearray.__contains__" (List.mem_append_left _ (by decide)))) ?_
    refine Eq.trans (dif_neg (n "bytearray.__mod__" (List.mem_append_left _ (by decide)))) ?_
    refine Eq.trans (dif_neg (n "bytearray.__rmod__" (List.mem_append_left _ (by decide)))) ?_
    refine Eq.trans (dif_neg (n "_struct.pack_into.held" (List.mem_append_left _ (by decide)))) ?_
    refine Eq.trans (dif_neg (n "bytearray.find.held" (List.mem_append_left _ (by decide)))) ?_
    cases pos with
    | nil => rfl
    | cons v r =>
      show (_ && Builtin.Bytes.decodersThatHold.contains id) = false
      rw [h2, Bool.and_false]
  | _ => rfl
theorem ba_write {S : Addr} {b : Array UInt8} {n : Nat} {f : Array UInt8 → Array UInt8} {E : Value → Shared → Prop} {Q : Unit → Shared → Prop} {M : Model} (ho : s.heap.get? S = some (baObj b n)) (hz : (f b).size ≤ sizeLine)
    (h : ∀ h', h'.get? S = some (baObj (f b) n) → Heap.ExtBut S s.heap h' → Q () { s with heap := h' }) : wpAny M A (Builtin.Bytes.write (.ref S) f) Q E s := by
  show wpAny _ _ (updateBytearray S f) _ _ _
  unfold updateBytearray
  refine wpAny_bind (wpAny_load ho ?_)
  show wpAny _ _ (update S (Obj.mapBytearray f) >>= fun _ => lookBehind S) _ _ _
  refine wpAny_bind (wpAny_update ho ?_)
  have hS := Heap.get?_update_self (Obj.mapBytearray f) ho rfl
  refine wpAny_lookBehind hS ?_ (h _ hS (Heap.SameBut.update ..).extBut)
  show (if (f b).size > sizeLine then some "bytearray:memory" else none) = none
  rw [if_neg (Nat.not_lt.mpr hz)]
theorem ba_init_bind (v : Value) : Builtin.Bytes.bindOptional "bytearray.__init__" "bytearray" ["source", "encoding", "errors"] [v] [] = pure [some v, none, none] := by kernel_rfl
theorem ba_initC {S : Addr} {b : Array UInt8} {t : Tok} {Q : Fin → Shared → Prop} (ho : s.heap.get? S = some (baObj #[] 0)) (hz : b.size ≤ sizeLine)
    (h : ∀ h', h'.get? S = some (baObj b 0) → Heap.ExtBut S s.heap h' → Q (.done (.ret .none)) { s with heap := h' }) :
    wpC (model prog w) A (Builtin.«bytearray.__init__» ⟨[.ref S, .bytes b t], []⟩) Q s := by
  have hT := ba_type ho
  unfold Builtin.«bytearray.__init__»
  refine wpC_bind (wpC_of ?_)
  unfold Builtin.Bytes.ownRelease
  refine wpAny_bind (slot_own hT ba_lk_release ba_end2 ba_drop2 ba_sub (wpAny_pure ?_))
  refine wpC_iteN (by decide) ?_
  refine wpC_bind (wpC_of (wpAny_of_eq (ba_init_bind _) ?_))
  refine wpC_bind (wpC_of (wpAny_of_eq (a := ()) rfl ?_))
  refine wpC_bind (wpC_of (wpAny_of_eq (a := ()) rfl ?_))
  refine wpC_bind ?_
  unfold orM
  refine wpC_bind (exported_no ?_)
  show wpC _ _ (Builtin.Bytes.exportsOf (.ref S) >>= fun n => pure (decide (n > 0))) _ _
  unfold Builtin.Bytes.exportsOf
  refine wpC_of (wpAny_bind (wpAny_bind (wpAny_load ho (wpAny_pure (wpAny_pure ?_)))))
  refine wpC_iteN (by decide) ?_
  refine wpC_bind (wpC_of (ba_write ho (Nat.zero_le _) fun h1 hS1 k1 => ?_))
  refine wpC_of ?_
  refine wpAny_bind (wpAny_pure ?_)
  refine wpAny_bind (wpAny_ite_false (by decide) (wpAny_ite_false (by decide) (wpAny_pure ?_)))
  refine wpAny_bind (wpAny_specialOf (typeIs_bytes _ b t) by_lk_index ?_)
  refine wpAny_ite_false (by decide) ?_
  refine wpAny_bind (by_buffer ?_)
  dsimp only
  refine wpAny_bind (wpAny_rule ?_)
  refine wpAny_bind (ba_write hS1 hz fun h2 hS2 k2 => ?_)
  exact wpAny_pure (h _ hS2 (fun a o ne e => k2 a o ne (k1 a o ne e)))
end
theorem ba_mro : mroOf (.type "bytearray") = pure [.type "bytearray", .type "object"] := by rw [mroOf_type]; kernel_rfl
theorem ba_lookup_new : typeLookup (.type "bytearray") "__new__" = pure (some (.builtin "bytearray.__new__")) := by rw [typeLookup_type, builtinLookup_eq_fast]; kernel_rfl
theorem slot_ba_init : Slot "bytearray" "__init__" "bytearray.__init__" :=
  .of (owner := "bytearray") (n := "__init__") (by rw [typeLookup_type, builtinLookup_eq_fast]; kernel_rfl) (by decide +kernel) (by decide +kernel) (by decide +kernel)
    (by first | exact .inl (by decide +kernel) | exact .inr (by decide +kernel)) (by rw [isSubtype_type]; kernel_rfl)
theorem ba_called : TypeCalled "bytearray" "bytearray.__new__" "bytearray.__init__" :=
  ⟨by decide +kernel, by decide +kernel, ⟨_, _, ba_mro⟩, madeBy_type ba_mro ba_lookup_new (by decide +kernel), by decide +kernel, by rw [isSubtype_type]; kernel_rfl, slot_ba_init⟩
theorem ba_typeCall (a : Value) : checkTypeCall "bytearray" ⟨[a], []⟩ = pure () := by kernel_rfl
theorem ba_newCall (a : Value) : checkBuiltinCall "bytearray.__new__" ⟨[.type "bytearray", a], []⟩ = pure () := by kernel_rfl
theorem ba_entry_new : entryFor table "bytearray.__new__" = some Builtin.«list.__new__» := entryFor_alias (id' := "list.__new__") (by kernel_rfl) rfl (by decide +kernel) (by kernel_rfl)
theorem ba_plain_new : plainId "bytearray.__new__" = true := by decide +kernel
theorem ba_entry_init : entryFor table "bytearray.__init__" = some Builtin.«bytearray.__init__» := entryFor_of_tree (by kernel_rfl)
theorem ba_args_init (a b : Value) : argsOk "bytearray.__init__" ⟨[a, b], []⟩ := by
  unfold argsOk; rw [signature?_of (id := "bytearray.__init__") (n := ['_', '_', 't', 'i', 'n', 'i', '_', '_']) (o := ['y', 'a', 'r', 'r', 'a', 'e', 't', 'y', 'b']) (by kernel_rfl) owner_ba]; kernel_rfl
theorem ba_owner : ("bytearray.__new__".splitOn ".__new__").headD "" = "bytearray" := by rw [split_bytearray]; rfl
section
variable {prog : Program} {w : World} {A : Around} {E : Value → Shared → Prop} {s : Shared}
theorem ba_new (a : Value) {Q₁ : Value → Shared → Prop} (h : Q₁ (.ref s.heap.objs.size) { s with heap := s.heap.push (baObj #[] 0) }) :
    codeAny (model prog w) A (.call (.builtin "bytearray.__new__") ⟨[.type "bytearray", a], []⟩) (wants Q₁ E) s := by
  refine codeAny_of_tree ?_
  show wpAny _ A.in1 (do checkBuiltinCall "bytearray.__new__" ⟨[.type "bytearray", a], []⟩; again (.builtin "bytearray.__new__" ⟨[.type "bytearray", a], []⟩)) _ _ s
  refine wpAny_bind (wpAny_of_eq (ba_newCall a) (wpAny_pure ⟨plainId_quiet ba_plain_new _, codeAny_builtin_stack ba_entry_new rfl fun p st => ?_⟩))
  rw [Around.under_plainId ba_plain_new _]
  have hsub := ba_sub
  have hown := ba_owner
  obtain ⟨hp, g, d, tk, os⟩ := s
  simp only [hown]
  wp_walk
  exact h
theorem wpC_if_false {α : Type} {M : Model} {c : Bool} {a b : Sem α} {Q : α → Shared → Prop} (hc : c = false) (h : wpC M A b Q s) : wpC M A (if c = true then a else b) Q s := by
  subst hc
  exact h
theorem codeC_builtin {id : String} {args : Args} {b : Builtin} {R : Flow → Shared → Prop} (hk : keepers.contains id = false) (hb : entryFor table id = some b)
    (h : wpC (model prog w) (A.under (.builtin id args)) (b args) (fun fin s' => match fin with | .done f => R f s' | .again c' => c'.quiet = true ∧ codeC (model prog w) A c' R s') s) : codeC (model prog w) A (.builtin id args) R s := by
  refine codeC_of_tree (by simp only [calm, hk, Bool.not_false]) ?_
  have e : (model prog w).den (.builtin id args) = b args := by
    show (match entryFor table id with | some b => b args | none => unsupported ((withoutEnding? id "#data").getD id)) = _
    rw [hb]
  rw [e]; exact h
theorem ba_initCode {S : Addr} {b : Array UInt8} {t : Tok} {R : Flow → Shared → Prop} (ho : s.heap.get? S = some (baObj #[] 0)) (hz : b.size ≤ sizeLine)
    (h : ∀ h', h'.get? S = some (baObj b 0) → Heap.ExtBut S s.heap h' → R (.ret .none) { s with heap := h' }) :
    codeC (model prog w) A (.call (.builtin "bytearray.__init__") ⟨[.ref S, .bytes b t], []⟩) R s := by
  refine codeC_of_tree rfl ?_
  show wpC _ _ (do checkBuiltinCall "bytearray.__init__" ⟨[.ref S, .bytes b t], []⟩; again (.builtin "bytearray.__init__" ⟨[.ref S, .bytes b t], []⟩)) _ _
  refine wpC_bind (wpC_of (slot_ba_init.check _ _ _ _ _ _ _ _ (ba_type ho) (ba_args_init _ _) ?_))
  refine wpC_pure ⟨plainId_quiet slot_ba_init.plain _, codeC_builtin (by decide +kernel) ba_entry_init ?_⟩
  exact ba_initC ho hz h
theorem ba_callC {b : Array UInt8} {t : Tok} {Q : Value → Shared → Prop} (hz : b.size ≤ sizeLine)
    (h : ∀ h', h'.get? s.heap.objs.size = some (baObj b 0) → (∀ a o, s.heap.get? a = some o → h'.get? a = some o) → Q (.ref s.heap.objs.size) { s with heap := h' }) :
    wpC (model prog w) A (call (.type "bytearray") [.bytes b t]) Q s := by
  refine wpC_call (codeC_of_tree rfl ?_)
  show wpC _ _ (callAny (.type "bytearray") _) _ _
  refine wpC_pure ⟨Code.quiet_builtin _ (by decide +kernel), codeC_builtin (by decide +kernel) F.entry_type_call ?_⟩
  show wpC _ _ (Builtin.«type.__call__» ⟨[.type "bytearray", .bytes b t], []⟩) _ _
  unfold Builtin.«type.__call__»
  dsimp only
  refine wpC_if_false (by decide) ?_
  refine wpC_if_false ba_called.canCreate ?_
  refine wpC_bind (wpC_of (wpAny_of_eq (ba_typeCall _) ?_))
  refine wpC_bind (wpC_of (wpAny_of_eq ba_mro ?_))
  refine wpC_if_false rfl ?_
  refine wpC_bind (wpC_of (wpAny_of_eq ba_called.made ?_))
  refine wpC_bind (wpC_pure ?_)
  refine wpC_bind (wpC_of (wpAny_holding (wpAny_call (codeAny_mono (ba_new (E := fun _ _ => False) (Q₁ := fun v s' => v = .ref s.heap.objs.size ∧ s' = { s with heap := s.heap.push (baObj #[] 0) }) _ ⟨rfl, rfl⟩) fun r s₁ hr => ?_))))
  cases r with
  | error e => exact hr
  | ok fl =>
    cases fl with
    | ret obj =>
      obtain ⟨rfl, rfl⟩ := hr
      have hS : (s.heap.push (baObj #[] 0)).get? s.heap.objs.size = some (baObj #[] 0) := Heap.get?_push_size _ rfl
      have hT : Shared.TypeIs { s with heap := s.heap.push (baObj #[] 0) } (.ref s.heap.objs.size) "bytearray" := ⟨_, hS, rfl⟩
      refine wpC_bind (wpC_of (wpAny_isInstance hT ba_sub ?_))
      refine wpC_if_false rfl ?_
      refine wpC_bind (wpC_holding ?_)
      unfold callSpecial?
      refine wpC_bind (wpC_of (wpAny_specialOf hT slot_ba_init.lookup ?_))
      refine wpC_holding ?_
      refine wpC_bind (wpC_of (wpAny_of_eq (slot_ba_init.bind _) ?_))
      refine wpC_bind (wpC_call (ba_initCode hS hz fun h' h1 h2 => ?_))
      refine wpC_pure ?_
      refine wpC_if_false rfl ?_
      exact wpC_pure (h _ h1 fun a o e => h2 a o (Nat.ne_of_lt (Heap.lt_size e)) (Heap.get?_push_of_some _ e))
    | _ => exact hr.elim
end
section
variable {prog : Program} {w : World} {A : Around} {s : Shared}
theorem codeC_func {body : List Stmt} {env : Env} {R : Flow → Shared → Prop}
    (h : wpC (model prog w) (A.deeper env) (execs body env) (fun f s' => R (.ret (match f with | .ret v => v | _ => .none)) s') s) : codeC (model prog w) A (.func body env) R s := by
  refine codeC_of_tree rfl ?_
  show wpC _ (A.deeper env) (do point; match ← (execs body env).onRaise (leaving env) with | .ret v => ret v | _ => ret .none) _ s
  refine wpC_bind (wpC_of (wpAny_point ?_))
  refine wpC_bind (wpC_onRaise (wpC_mono h fun f s' h' => ?_))
  cases f <;> exact wpC_pure h'
theorem codeC_call_def {R : Flow → Shared → Prop} {a : Addr} {o : Obj} {fd : FuncData} {body : List Stmt} {args : Args} {binds : List (Str × Value)}
    (hroom : A.depth < recursionLimit) (ho : s.heap.get? a = some o) (hdata : o.data = .func fd) (hlim : s.heap.NoLimit) (hcd : s.heap.CodeRec fd.code fd.qualname)
    (hbody : fd.body = .stmts body) (hbind : BindsTo s fd args binds) {EnvP : Env → Shared → Prop}
    (hco : fd.scope.isCoroutine = false) (hgen : fd.scope.isGenerator = false)
    (hnew : wpAny (model prog w) A.in1 (newFunctionEnv fd.scope fd.globals fd.closure binds (fd.qualname ++ ".<locals>.") (some a) fd.code none fd.builtins) (fun env s₂ => s₂.heap.NoLimit ∧ EnvP env s₂) (fun _ _ => False) s)
    (h : ∀ env s₂, EnvP env s₂ → wpC (model prog w) (A.deeper env) (execs body env) (fun f s' => R (.ret (match f with | .ret v => v | _ => .none)) s') s₂) :
    codeC (model prog w) A (.call (.ref a) args) R s := by
  refine codeC_of_tree rfl ?_
  show wpC _ A.in1 (callAny (.ref a) args) _ s
  simp only [callAny]
  refine wpC_bind (wpC_of (wpAny_load ho ?_))
  obtain ⟨c, oc, vs, tq, hc, hoc, hdc, hq⟩ := hcd
  simp only [hdata, callFunction, hco, hgen, hbody, hc]
  rw [hc] at hnew
  refine wpC_bind (m := field (.ref c) 1) (wpC_of (wpAny_field hoc hdc hq ?_))
  refine wpC_bind (wpC_pure ?_)
  refine wpC_bind (wpC_of (hbind _ _ _ _ ?_))
  refine wpC_bind (wpC_of (wpAny_mono hnew (fun env s₂ h₂ => ?_) fun _ _ x => x))
  refine wpC_bind (wpC_of (wpAny_enterFrame h₂.1 hroom ?_))
  exact wpC_pure ⟨rfl, codeC_func (h env s₂ h₂.2)⟩
end
section
variable {prog : Program} {A : Around} {env : Env} {K : Frag} {p : Program} {loose : List Str}
    {R : Flow → Shared → Prop} {name qual : Str} {params : Arguments} {body : List Stmt} {scope : Scope} {dV kV doc pm cdv ct oc : Value} {an od : Option Addr} {osl : Array (Option Value)} {f : Addr} {args : Args} {binds : List (Str × Value)}
theorem callC_in (B : Below A₀ base outer h₀) (F : Fr h₀ L s.heap m) (X₀ : K.In h₀) (N : News h₀ L s.heap news) (T : Top p loose mean mg mb h₀)
    (hA : A.frames = some (env :: outer)) (hf : env.frame = some L) (hke : env.scope.kind = .function)
    (ho : K.lookup f = some ⟨oc, od, .func (fnOf name qual params body scope dV kV doc pm an cdv ct), osl⟩) (hcd : codeIn K cdv qual = true) (hroom : A.depth < recursionLimit)
    (hbind : BindsTo s (fnOf name qual params body scope dV kV doc pm an cdv ct) args binds) (hloc : ∀ y ∈ binds, scope.names.lookup y.1 = some .local)
    (h : ∀ g L' h₁, Fr h₀ L g m → Fr g L' h₁ (fun y => binds.reverse.lookup y) → News g L' h₁ news → Below A base (env :: outer) g → K.In g → Top p loose mean mg mb g →
      wpC (model prog w) (A.deeper (envOf qual scope L' f cdv)) (execs body (envOf qual scope L' f cdv))
        (fun fl s' => ∃ L₁ m₁ news₁, Fr g L₁ s'.heap m₁ ∧ News g L₁ s'.heap news₁ ∧ (Fr h₀ L s'.heap m → News h₀ L s'.heap news₁ → R (.ret (match fl with | .ret v => v | _ => .none)) s'))
        { s with heap := h₁, toks := s.toks + binds.length })
    (hco : scope.isCoroutine = false) (hgen : scope.isGenerator = false) (hk : scope.kind = .function)
    (hcell : ∀ x ∈ scope.names, x.2 ≠ .cell) : codeC (model prog w) A (.call (.ref f) args) R s := by
  have X := X₀.keeps F.keep
  obtain ⟨FG, BG, st, _⟩ := groundX (R := fun _ _ => True) B F N hA hf hke
  obtain ⟨oL, es, ep, hLg, hLd, hLk, hLf⟩ := FG.ns
  refine codeC_call_def (fd := fnOf name qual params body scope dV kV doc pm an cdv ct) (body := body) (binds := binds)
    (EnvP := fun e s₂ => ∃ h₁, e = envOf qual scope s.heap.objs.size f cdv ∧ s₂ = { s with heap := h₁, toks := s.toks + binds.length } ∧ h₁.Ns s.heap.objs.size (fun x => binds.reverse.lookup x) ∧ ∀ b o, s.heap.get? b = some o → h₁.get? b = some o)
    hroom (X _ _ ho) rfl (T.nolimit.keeps F.keep) (codeRec_of X hcd) rfl hbind hco hgen
    (wpAny_newFunctionEnv hcell hloc (fun h₁ hns hsb => ⟨(T.nolimit.keeps F.keep).fresh _ hsb, h₁, rfl, rfl, hns, fun b o e => hsb.extBut b o (Nat.ne_of_lt (Heap.lt_size e)) (Heap.get?_push_of_some _ e)⟩) hk) ?_
  rintro _ _ ⟨h₁, rfl, rfl, hns, hk₁⟩
  refine wpC_mono (h _ s.heap.objs.size h₁ FG ⟨hns, fun b o e => hk₁ b o (of_hideAll _ e), Nat.le_of_eq (hideAll_size _ _)⟩
    (fun p hp => ⟨hk₁ _ _ (N p hp).1, Nat.ne_of_lt (Heap.lt_size (N p hp).1), hideAll_none _ (List.mem_map_of_mem hp)⟩) BG (X₀.keeps st) (T.keeps st)) (fun fl s' hl => ?_)
  obtain ⟨L', m', news', F', N', k⟩ := hl
  refine k ⟨⟨oL, es, ep, F'.keep _ _ hLg, hLd, hLk, hLf⟩, fun b o e => F'.keep b o (st b o e), F.above⟩ fun p hp => ⟨(N' p hp).1, fun q => ?_, ?_⟩
  · have := (N' p hp).2.2; rw [q, hLg] at this; cases this
  · cases q : h₀.get? p.1 with
    | none => rfl
    | some o => have := (N' p hp).2.2; rw [st _ _ q] at this; cases this
end
section
variable {M : Model} {A : Around} {s : Shared}
theorem codeC_loop {c : Code} {R : Flow → Shared → Prop} (hcalm : calm c = true) (hq : c.quiet = true) (I : Nat → Shared → Prop)
    (turn : ∀ n s, I n s → wpC M (A.under c) (M.den c)
      (fun fin s' => match fin with
        | .done f => R f s'
        | .again c' => (c' = c ∧ ∃ m, m < n ∧ I m s') ∨ (c'.quiet = true ∧ codeC M A c' R s')) s)
    (n : Nat) (h : I n s) : codeC M A c R s := by
  induction n using Nat.strongRecOn generalizing s with
  | ind n ih =>
    refine codeC_of_tree hcalm (wpC_mono (turn n s h) (fun fin s' hf => ?_))
    cases fin with
    | done f => exact hf
    | again c' =>
      rcases hf with ⟨rfl, m, hm, hI⟩ | hf
      · exact ⟨hq, ih m hm hI⟩
      · exact hf
end
section
variable {prog : Program} {A : Around} {s : Shared}
theorem wpC_For {M : Model} {env : Env} {target iter body orelse pos} {Q : Flow → Shared → Prop}
    (h : wpAny M A (eval iter env) (fun x s₁ => wpAny M A (pyIter x) (fun it s₂ =>
      codeC M A (.forLoop target it body orelse env) Q s₂) (fun _ _ => False) s₁) (fun _ _ => False) s)
    (hs : ∀ x, foldedSetIterable iter env x = pure x := by intro _; rfl) :
    wpC M A (exec (.For target iter body orelse pos) env) Q s := by
  rw [exec_For]
  refine wpC_bind (wpC_standAt (wpC_bind (wpC_of (wpAny_mono h (fun x s₁ h₁ => ?_) fun _ _ h' => h'))))
  refine wpC_bind (wpC_of (wpAny_of_eq (hs x) ?_))
  refine wpC_bind (wpC_standAt (wpC_bind (wpC_holding (wpC_of (wpAny_mono h₁ (fun it s₂ h₂ => ?_) fun _ _ h' => h')))))
  unfold runOwn
  exact wpC_onRaise (wpC_run (h := none) h₂)
end
/-! ## the bridge from a walk at the caller's own stack -/
theorem wp_of_wpC_done {M : Model} {t : Sem Fin} {R : Result → Shared → Prop} {s : Shared} (h : wpC M callerA t (fun fin s' => ∃ f, fin = .done f ∧ R (.ok f) s') s) (p : Pos) :
    Sem.wp M ⟨.builtin "claim.caller" {}, none, none, [], none⟩ t (Sem.finPost M ⟨.builtin "claim.caller" {}, none, none, [], none⟩ R) (fun e _ s' => R (.error e) s') p s := by
  refine Sem.wp_mono M _ t (fun fin p' s' h' => ?_) (fun _ _ _ h' => h'.elim) p s (h _ p caller_in (by decide) (fun x hx => nomatch hx))
  obtain ⟨f, rfl, hf⟩ := h'
  exact hf
theorem thread_endsC {prog : Program} {w : World} {t : Sem Fin} {s : Shared} {R : Result → Shared → Prop} (hreg : s.asleep)
    (h : wpC (model prog w) callerA t (fun fin s' => ∃ f, fin = .done f ∧ (R (.ok f) s' ∧ leftWithCleanup s'.gens = false)) s) :
    ∃ n r s' s'', runN (denote table) prog w n s ⟨t, .builtin "claim.caller" {}, default, []⟩ = .halted (outcomeOf r) s' ∧
      schedN (denote table) prog w n (.single s ⟨t, .builtin "claim.caller" {}, default, []⟩) = .halted (outcomeOf r) s' ∧ s'.forget = s''.forget ∧ R r s'' := by
  obtain ⟨n, r, s₁, s₂, hs, hn, hfo, hR⟩ := wp_halts_full (M := model prog w) (R := R) hreg (wp_of_wpC_done (R := fun r s' => R r s' ∧ leftWithCleanup s'.gens = false) h default)
  exact ⟨n, r, s₂, s₁, hn, hs, hfo, hR⟩
theorem callFromC {c : ClaimW} {tree : List Value → Sem Fin} {w : World} {s : Shared} {free : Addr → Prop} {gens : Prop} {kept : Heap → Prop} (hz : s.asleep) (hgens : s.gens = #[])
    (hspec : ∀ args, c.pre args = true → WData.layableAll args = true →
      ∀ ord : List DictEntry → List DictEntry, (∀ l, (ord l).Perm l) →
      ∃ vs s₁, layAllW c.records (classAt s.heap) w.params ord args s = some (vs, s₁) ∧
        wpC (model c.prog w) callerA (tree vs) (fun fin s' => ∃ f, fin = .done f ∧ (c.Ends s args vs s₁ (.ok f) s' ∧ s'.os = s.os ∧ AllBare s'.gens ∧ kept s'.heap)) s₁) :
    c.CallFrom (fun vs => ⟨tree vs, .builtin "claim.caller" {}, default, []⟩) w free gens kept s := by
  intro args hpre hlay ord hord
  refine hideG fun Z hZ => ?_
  obtain ⟨vs, s₁, hlaid, hcode⟩ := hspec args hpre hlay ord hord
  have hal := layAllW_rest _ _ _ hlaid
  refine ex4 (thread_endsC (prog := c.prog) (w := w) (t := tree vs) (s := s₁)
    (R := fun r s' => c.Ends s args vs s₁ r s' ∧ s'.os = s.os ∧ kept s'.heap)
    (Shared.asleep_of_life hal.2.2.2 hz)
    (wpC_mono hcode (by
      rintro fin s' ⟨f, e, h1, h2, h3, h4⟩
      exact ⟨f, e, ⟨h1, h2, h4⟩, leftWithCleanup_false_of_bare h3⟩))) ?_
  intro k r s' s'' hq
  refine an4 hq ?_
  clear hq
  intro hrun hsched hfo hR
  have hcase := hR.1
  have hos := hR.2.1
  have hkp := hR.2.2
  clear hR
  obtain ⟨eh, _, _, eo, _⟩ := Shared.forget_eq hfo
  have hcase := hcase.congr eh
  have hkp : kept s'.heap := by first | exact eh ▸ hkp | (rw [eh] at hkp; exact hkp) | (rw [← eh] at hkp; exact hkp)
  rw [← eo] at hos
  have hlife : s'.heap.life = s.heap.life := (runN_life _ _ _ hrun).trans hal.2.2.2
  refine hZ ⟨vs, s₁, hlaid, k, _, s', hsched, ?_, (fun _ i x hx => by rw [hgens] at hx; simp at hx), hkp, by rw [hlife], Shared.rest_eq hos⟩
  clear hZ
  rcases hcase with ⟨v, rfl, d1, d2, d3, d4, d5⟩ | ⟨e, ob, cls, rfl, d1, d2, d3, d4, d5⟩
  · exact .inl ⟨v, rfl, d1, d2, d3, fun b o y _ => d4 b o y, d5⟩
  · exact .inr ⟨e, ob, cls, rfl, d1, d2, d3, d4, fun b o y _ => d5 b o y⟩
abbrev WalkC (q : Program) (loose : List Str) (XP : (Str → Option Value) → Heap → Prop) (YP : World → Heap → Prop) (r : RowW) (d : DefRec) (kwd : List (Str × PySem.Expr)) : Prop :=
  ∀ (w : World) (s₀ s₁ : Shared) (mg mb : Str → Option Value), Ground q loose r.records XP w s₀ mg mb s₁.heap → YP w s₁.heap → ∀ (a : Addr) (o : Obj) (pm cd doc dV kV : Value), s₁.heap.get? a = some o →
    o.data = .func { docDef d.name d.params d.body d.scope pm cd doc with defaults := dV, kwdefaults := kV } → s₁.heap.CodeRec cd d.name → Dflts mg s₁.heap d.params kwd dV kV → mg d.name = some (.ref a) → s₁.gens = #[] →
    ∀ (args : List WData) (vals : List Value) (as : List Addr), r.claim.pre args = true → WData.layableAll args = true → ReadsAllW r.records (classAt s₀.heap) s₁.heap vals args as → WellAll w.params s₁.heap vals args → (∀ a ∈ as, (a == sysModules) = false) →
      wpC (model r.prog w) callerA (PySem.call (.ref a) vals) (fun v s' => GoodWG r.claim (classAt s₀.heap) (ExcName.means s₀.heap) args s₁ (.ok (.ret v)) s') s₁
theorem openC {r : RowW} {tree : List Value → Sem Fin} {q : Program} {loose defs kps : List Str} {writes : Bool} {Xt : Shared → Bool} {XP : (Str → Option Value) → Heap → Prop} {α : Type} {Yf : Shared → α} {Ya : World → α} {YP : World → Heap → Prop} {N : Nat}
    (left : LeftO r.prog q loose Xt Yf Ya N) (hY : ∀ w s, Yf s = Ya w → YP w s.heap) (hYk : ∀ w h h', YP w h → (∀ b o, h.get? b = some o → h'.get? b = some o) → YP w h') (hX : ∀ s, Xt s = true → XP (s.heap.nsMap mainGlobals) s.heap) (hXk : ∀ mg h h', XP mg h → (∀ b o, h.get? b = some o → h'.get? b = some o) → XP mg h')
    (hRf : ∀ s, Xt s = true → RecFacts r.records s.heap) (hwr : (!writes || r.records.isEmpty) = true) (ok : (chainsOk q && opensWell r.prog && (frees r && r.within.isEmpty)) = true) (hb : r.prog.bare) (hw : r.promised)
    (ht : ∀ vs (w : World) (s : Shared) mg f (Q : Fin → Shared → Prop), s.heap.Ns mainGlobals mg → mg r.name = some f → wpC (model r.prog w) callerA (PySem.call f vs) (fun v s' => Q (.done (.ret v)) s') s → wpC (model r.prog w) callerA (tree vs) Q s)
    (pin : ∀ w s, s.heap.isNs mainGlobals = true → Ground q loose [] XP w s (s.heap.nsMap mainGlobals) (s.heap.nsMap builtinsNs) s.heap → ∀ n ∈ defs, isTheDefsW r.prog s.heap n)
    (call : ∀ (w : World) (s₀ s₁ : Shared) (mg mb : Str → Option Value), Ground q loose r.records XP w s₀ mg mb s₁.heap → YP w s₁.heap → ∀ (args : List WData) (vs : List Value) (as : List Addr),
      r.claim.pre args = true → WData.layableAll args = true → Laid r.records w s₀ s₁ args vs as → sysModules < s₀.heap.objs.size → ∃ f, mg r.name = some f ∧
        wpC (model r.prog w) callerA (PySem.call f vs) (fun v s' => GoodWG r.claim (classAt s₀.heap) (ExcName.means s₀.heap) args s₁ (.ok (.ret v)) s') s₁) : r.claim.HoldsOpenBy (fun vs => ⟨tree vs, .builtin "claim.caller" {}, default, []⟩) defs kps writes := by
  obtain ⟨ok, k5⟩ := Bool.and_eq_true_iff.mp ok
  obtain ⟨hch, o1⟩ := Bool.and_eq_true_iff.mp ok
  obtain ⟨k5, k6⟩ := Bool.and_eq_true_iff.mp k5
  obtain ⟨hsame, hu, ha, hap, hm⟩ := frees_parts k5
  refine ⟨⟨hb, o1, by show r.makers.map _ = []; rw [hm]; rfl⟩, hw.witness, fun w => ⟨(left.behind hX hch w).1, fun s' hs' => ?_⟩⟩
  refine hideG fun Z hZ => ?_
  obtain ⟨s₀, hf, hg0, s, hT, hz, hgens, hg, G00, y⟩ := (left.behind (XP := fun mg h => XP mg h ∧ RecFacts r.records h) (fun s hs => ⟨hX s hs, hRf s hs⟩) hch w).2 s' hs'
  have G0 : Ground q loose [] XP w s (s.heap.nsMap mainGlobals) (s.heap.nsMap builtinsNs) s.heap := ⟨G00.T, G00.B, G00.D, G00.TE, G00.TD, G00.W, G00.X.1, G00.cls, G00.has, G00.apart, G00.once, G00.K⟩
  have RF := G00.X.2
  have hT' := hT
  refine hZ ⟨s₀, hf, hg0, s, hT, pin w s hg G0, RF.1, RF.2.1, ?_⟩
  clear hZ
  have hgens : s.gens = #[] := Array.eq_empty_of_size_eq_zero (beq_iff_eq.mp hgens)
  have G : Ground q loose r.records XP w s _ _ s.heap := RF.ground G0
  refine callFromC (c := r.claim) hz hgens fun args hpre hlay ord hord => ?_
  refine hideG fun Z hZ => ?_
  obtain ⟨⟨vs, s₁⟩, hlaid⟩ := Option.isSome_iff_exists.mp (layAllW_isSome (P := w.params) (ord := ord) G.has args r.args s (pre_splitW hpre).1)
  have keeps := layAllW_keeps _ _ _ hlaid
  have hal := layAllW_rest _ _ _ hlaid
  obtain ⟨as, hrd, hin, hold⟩ := reads_layAllW hord _ _ _ hlaid hlay s₁.heap (fun _ _ e => e)
  have L : Laid r.records w s s₁ args vs as := ⟨⟨ord, hord, hlaid⟩, hrd, hin, hold, keeps, hal.1.trans hgens, hal.2.2.1⟩
  have G₁ := G.keeps hXk keeps
  obtain ⟨f, hf, h⟩ := call w s s₁ _ _ G₁ (hYk _ _ _ (hY w s y) keeps) args vs as hpre hlay L G.low
  have hi := ident_freeW hu ha hap
  have hwi : r.claim.within = [] := List.isEmpty_iff.mp k6
  exact hZ ⟨vs, s₁, hlaid, ht vs w s₁ _ f _ G₁.T.g hf (wpC_mono h (fun v s' g => ⟨_, rfl, have z := g.laid (c := r.claim) hsame hwi hi L; ⟨z.1, z.2.1, z.2.2, fun q => ⟨namesKept_of hT' hg kps keeps g.2.1.old, noTable hwr q⟩⟩⟩))⟩
theorem holdsC {r : OpenRow} {q : Program} {loose : List Str} {Xt : Shared → Bool} {XP : (Str → Option Value) → Heap → Prop} {α : Type} {Yf : Shared → α} {Ya : World → α} {YP : World → Heap → Prop} {d : DefRec} {kwd : List (Str × PySem.Expr)} {N : Nat}
    (left : LeftO r.prog q loose Xt Yf Ya N) (hY : ∀ w s, Yf s = Ya w → YP w s.heap) (hYk : ∀ w h h', YP w h → (∀ b o, h.get? b = some o → h'.get? b = some o) → YP w h')
    (hX : ∀ s, Xt s = true → XP (s.heap.nsMap mainGlobals) s.heap) (hXk : ∀ mg h h', XP mg h → (∀ b o, h.get? b = some o → h'.get? b = some o) → XP mg h')
    (hdef : defOf q r.name = some (d, kwd)) (hp : r.prog.theDef r.name = some (d.params, d.body, d.scope)) (hk : kwWritten? d.params.kwonlyargs d.params.kw_defaults = some kwd) (hRf : ∀ s, Xt s = true → RecFacts r.records s.heap) (hwr : (!r.writes || r.records.isEmpty) = true)
    (k1 : r.wellSaid = true) (ok : (chainsOk q && opensWell r.prog && (frees r.toRowW && r.within.isEmpty)) = true) (hb : r.prog.bare) (hw : r.toRowW.promised)
    (call : WalkC q loose XP YP r.toRowW d kwd) : r.Holds := by
  refine ⟨k1, hw, openC (r := r.toRowW) (tree := fun vs => do match ← nsGet mainNs r.name with
      | some f => do ret (← PySem.call f vs)
      | none => unsupported "claim.caller:no-such-global") left hY hYk hX hXk hRf hwr ok hb hw
    (fun vs w s mg f Q hg hf h => wpC_bind (wpC_of (wpAny_nsGet hg (by rw [hf]; exact wpC_bind (wpC_mono h (fun _ _ x => wpC_pure x))))))
    (fun w s hg G n hn => ?_) fun w s₀ s₁ mg mb G Y args vs as hpre hlay L low => ?_⟩
  · obtain rfl : n = r.name := by split at hn <;> simp_all
    exact pinned_of_view hg G hdef hp hk
  · obtain ⟨a, o, pm, cd, doc, dV, kV, h1, h2, h3, h4, h5⟩ := G.fn hdef
    exact ⟨.ref a, h1, call w s₀ s₁ mg mb G Y a o pm cd doc dV kV h2 h3 h4 h5 (defOf_name hdef ▸ h1) L.gens args vs as hpre hlay L.reads L.well (L.low low)⟩
theorem hdC (walk : WalkC VW LO (XL VW []) HK.says PySem.Challenge.rw_jj0020_01.row.toRowW lawD []) : PySem.Challenge.rw_jj0020_01.Holds := by
  refine holds_law said fun said => ?_
  refine holdsC (q := VW) (loose := LO) (Xt := fun s => xlAt VW [] s && recOk [] s) (XP := XL VW []) (Yf := HK.obs) (Ya := HK.val) (YP := HK.says) (N := 5600) (d := lawD) (kwd := []) left1 HK.of HK.keeps (fun s e => xl_of s (Bool.and_eq_true_iff.mp e).1) XL.keeps ?_ ?_ ?_ (fun s e => recFacts_of (Bool.and_eq_true_iff.mp e).2) (by rfl) said ?_ ⟨rfl, rfl, rfl, rfl, rfl, by decide +kernel⟩ ?hw walk
  · kernel_rfl
  · kernel_rfl
  · kernel_rfl
  · decide +kernel
  case hw => w_witness2
theorem callC_cells {prog : Program} {w : World} {A : Around} {R : Flow → Shared → Prop} {s : Shared} {name : Str} {params : Arguments} {body : List Stmt} {scope : Scope}
    {pm cd doc : Value} {a : Addr} {o : Obj} {args : List Value} {binds : List (Str × Value)}
    (hroom : A.depth < recursionLimit) (ho : s.heap.get? a = some o) (hdata : o.data = .func (Calls.docDef name params body scope pm cd doc)) (hlim : s.heap.NoLimit) (hcd : s.heap.CodeRec cd name)
    (hbind : bindArgs (Calls.docDef name params body scope pm cd doc) ⟨args, []⟩ = pure binds)
    (hkind : ∀ x ∈ binds, scope.names.lookup x.1 = some .local ∨ (scope.names.lookup x.1 = some .cell ∧ ((cellsFrom (s.heap.objs.size + 1) scope.names []).lookup x.1).isSome = true))
    (h : ∀ h₁ tk, Fr s.heap s.heap.objs.size h₁ (bindL (envOfC name scope s.heap.objs.size a cd).kindOf binds fun _ => none) →
      Cl s.heap.objs.size (cellsFrom (s.heap.objs.size + 1) scope.names []) h₁ (bindC (envOfC name scope s.heap.objs.size a cd).kindOf binds fun _ => none) →
      wpC (model prog w) (A.deeper (envOfC name scope s.heap.objs.size a cd)) (execs body (envOfC name scope s.heap.objs.size a cd))
        (fun f s' => R (.ret (match f with | .ret v => v | _ => .none)) s') { s with heap := h₁, toks := tk })
    (hco : scope.isCoroutine = false := by rfl) (hgen : scope.isGenerator = false := by rfl) (hk : scope.kind = .function := by rfl) :
    codeC (model prog w) A (.call (.ref a) ⟨args, []⟩) R s := by
  refine codeC_call_def (fd := Calls.docDef name params body scope pm cd doc) (body := body) (binds := binds)
    (EnvP := fun e s₂ => e = envOfC name scope s.heap.objs.size a cd ∧ ∃ h₁ tk, s₂ = { s with heap := h₁, toks := tk } ∧ Fr s.heap s.heap.objs.size h₁ (bindL (envOfC name scope s.heap.objs.size a cd).kindOf binds fun _ => none) ∧
      Cl s.heap.objs.size (cellsFrom (s.heap.objs.size + 1) scope.names []) h₁ (bindC (envOfC name scope s.heap.objs.size a cd).kindOf binds fun _ => none))
    hroom ho hdata hlim hcd rfl (BindsTo.of_eq hbind) hco hgen ?_ ?_
  · refine wpAny_newFunctionEnv_cells hk hkind fun env he s' X => ?_
    subst he
    obtain ⟨h₁, tk, rfl, _⟩ := X.done
    exact ⟨hlim.keeps X.toInCall.keep, rfl, h₁, tk, rfl, ⟨X.toInCall.ns, X.toInCall.keep, X.toInCall.fresh⟩, ⟨X.cell, X.apart, X.above⟩⟩
  · rintro _ _ ⟨rfl, h₁, tk, rfl, F, C⟩
    exact h h₁ tk F C
/-! ## a list comprehension over the signs of a text -/
section
open LCg
variable {prog : Program} {A : Around} {env : Env}
theorem compEnd {I C D : Addr} {s₁ : Shared} {oI oC oD : Obj} {S : List (Addr × Obj) → Prop} {rest : Value → List (Addr × Obj) → Prop} {y : Value} {h' : Heap} {tk : Nat} {news' : List (Addr × Obj)}
    (F : Fr h₀ L h' m) (N : News h₀ L h' ((I, oI) :: (C, oC) :: (D, oD) :: news')) (off : Off3 I C D news') (hS : S news') (r : rest y news') :
    CompEnd h₀ L m s₁ I oI C oC D oD S rest y { s₁ with heap := h', toks := tk } := ⟨h', tk, news', rfl, F, N, off, hS, r⟩
theorem ListComp_S {elt iter : Expr} {x : Str} {px : Pos} {scope : Scope} {cl : List (Str × Addr)} {pos : Pos} {Q : Value → Shared → Prop} (F₀ : Fr h₀ L s.heap m)
    (hclos : closureFor scope env = pure cl) (hcell : ∀ y ∈ scope.names, y.2 ≠ .cell) (hkind : scope.kind = .function)
    (hnames : ∀ y ∈ scope.names, y.2 = .local → scope.names.lookup y.1 = some .local) (hx : scope.names.lookup x = some .local)
    (h : wpAny (model prog w) A (eval iter env) (fun xv s₁ => ∃ y t news, xv = .str y t ∧ A.handled = none ∧ y.cps.all (· < 128) = true ∧ Fr h₀ L s₁.heap m ∧ News h₀ L s₁.heap news ∧ y.cps.size ≤ sizeLine ∧
      ∀ s₂ : Shared, (∃ h, s₂ = { s₁ with heap := h }) → CompRest prog w A h₀ L m env elt x scope cl s₂ (fun _ => True) (SignAt y) (FinE h₀ L m s₂ Q) y.cps.size 0 [] news) E s)
    (hs : ∀ x, foldedSetIterable iter env x = pure x := by intro _; rfl) :
    wpAny (model prog w) A (eval (.ListComp elt [⟨.Name x px, iter, [], 0⟩] scope pos) env) Q E s := by
  rw [eval_ListComp]
  refine wpAny_comprehension_free (use := none) rfl hs hclos hkind hnames (wpAny_mono h (fun xv s₁ h₁ => ?_) fun _ _ e => e)
  refine hideG fun Z hZ => ?_
  obtain ⟨y, t, news, rfl, hh, ha, F, N, hsz, R⟩ := h₁
  refine hZ ?_
  clear hZ Z
  have up : ∀ (o : Obj) b o', s₁.heap.get? b = some o' → (s₁.heap.push o).get? b = some o' := fun o b o' e => Heap.get?_push_of_some _ e
  refine wpAny_pyIter_ascii ha ?_
  refine block_U (Walks.strAscii hh s₁.heap.objs.size y t) hsz (fun i h st => by obtain ⟨o, e, _⟩ := st; exact ⟨o, e⟩) (fun i h h' o nw st e e' _ _ _ => by obtain ⟨o', q, r⟩ := st; rw [e] at q; cases q; exact ⟨o, e', r⟩) hcell hkind hx
    ⟨_, Heap.get?_push_size _ rfl, rfl, rfl⟩ (fun b hb => ?_)
    (F.keeps (up _)) (N.grown (up _)) (Nat.ne_of_lt F.ns.lt) (next_is_new F) (fun p hp => Nat.ne_of_lt (Heap.lt_size (N p hp).1)) trivial (R _ ⟨_, rfl⟩) ?_
  · show b < (s₁.heap.push _).objs.size
    rw [Heap.size_push, List.mem_singleton.mp hb]
    exact Nat.lt_succ_self _
  · intro D C h tk m' ys news' F' N' o1 hn hC₀ hD₀ hCL hDL hCD offC fin
    refine ⟨m', hn, fun h'' hs'' => fin D h'' tk (F'.change hs'' hCL hC₀) (fun p hp => ?_) o1⟩
    refine ⟨hs''.extBut _ _ ?_ (N' p hp).1, (N' p hp).2⟩
    rcases List.mem_cons.mp hp with rfl | hp
    · exact Ne.symm hCD
    · exact offC p hp
inductive Rel2 {α : Type} (G : α → Value → Prop) : List α → List Value → Prop
  | nil : Rel2 G [] []
  | snoc {as : List α} {vs : List Value} {a : α} {v : Value} : Rel2 G as vs → G a v → Rel2 G (as ++ [a]) (vs ++ [v])
theorem Rel2.len {α : Type} {G : α → Value → Prop} {as : List α} {vs : List Value} (h : Rel2 G as vs) : as.length = vs.length := by
  induction h with
  | nil => rfl
  | snoc _ _ ih => rw [List.length_append, List.length_append, ih]; rfl
theorem rest_map {α : Type} {G : α → Value → Prop} {elt : Expr} {x : Str} {scope : Scope} {cl : List (Str × Addr)} {s : Shared} {S : List (Addr × Obj) → Prop} {P : Nat → Value → Prop} {Fin : List Value → List (Addr × Obj) → Prop} {news : List (Addr × Obj)} {n : Nat} {as : List α} {iv : α → Value → Prop}
    (hn : as.length = n) (hP : ∀ i v, P i v → ∃ a, as[i]? = some a ∧ iv a v)
    (turn : ∀ a v I oI C oC D m₂ ys h tk (E' : Value → Shared → Prop), a ∈ as → iv a v → NsObj oC m₂ → m₂ x = some v → Fr h₀ L h m → News h₀ L h ((I, oI) :: (C, oC) :: (D, lst ys) :: news) → Off3 I C D news → ((@Ne Nat I C) ∧ (@Ne Nat I D) ∧ (@Ne Nat C D)) →
      wpAny (model prog w) A (eval elt (compEnvC scope cl C env)) (CompEnd h₀ L m { s with heap := h, toks := tk } I oI C oC D (lst ys) S (fun y news' => news' = news ∧ G a y)) E' { s with heap := h, toks := tk })
    (fin : ∀ ys, Rel2 G as ys → Fin ys news) : CompRest prog w A h₀ L m env elt x scope cl s S P Fin n 0 [] news := by
  have key : ∀ (j i : Nat) (ys : List Value), i + j = n → Rel2 G (as.take i) ys → CompRest prog w A h₀ L m env elt x scope cl s S P Fin j i ys news := by
    intro j
    induction j with
    | zero =>
      intro i ys hi hy
      have e : i = as.length := by omega
      subst e
      rw [List.take_length] at hy
      exact CompRest.zero (fin ys hy)
    | succ j ih =>
      intro i ys hi hy
      refine CompRest.succ ?_
      intro v I oI C oC D m₂ h tk E' hv hC hx F N off ne
      obtain ⟨a, ha, hiv⟩ := hP i v hv
      refine wpAny_mono (turn a v I oI C oC D m₂ ys h tk E' (List.mem_of_getElem? ha) hiv hC hx F N off ne) (fun y s₂ hq => ?_) fun _ _ e => e
      obtain ⟨h', tk', nw, e, F', N', off', hS, hn', hg⟩ := hq
      rw [hn'] at N' off' hS
      refine ⟨h', tk', news, e, F', N', off', hS, ih (i + 1) _ (by omega) ?_⟩
      rw [List.take_add_one, ha]
      exact .snoc hy hg
  exact key n 0 [] (by omega) (by rw [List.take_zero]; exact .nil)
theorem signs_at {y : Str} : ∀ i v, SignAt y i v → ∃ c, y.cps.toList[i]? = some c ∧ ∃ u, v = .str ⟨#[c]⟩ u := fun i v h => by
  obtain ⟨c, u, hc, rfl⟩ := h
  exact ⟨c, by simpa using hc, u, rfl⟩
theorem rest_signs {G : Nat → Value → Prop} {elt : Expr} {x : Str} {scope : Scope} {cl : List (Str × Addr)} {s : Shared} {S : List (Addr × Obj) → Prop} {Fin : List Value → List (Addr × Obj) → Prop} {news : List (Addr × Obj)} {y : Str}
    (turn : ∀ c u I oI C oC D m₂ ys h tk (E' : Value → Shared → Prop), c ∈ y.cps.toList → NsObj oC m₂ → m₂ x = some (.str ⟨#[c]⟩ u) → Fr h₀ L h m → News h₀ L h ((I, oI) :: (C, oC) :: (D, lst ys) :: news) → Off3 I C D news → ((@Ne Nat I C) ∧ (@Ne Nat I D) ∧ (@Ne Nat C D)) →
      wpAny (model prog w) A (eval elt (compEnvC scope cl C env)) (CompEnd h₀ L m { s with heap := h, toks := tk } I oI C oC D (lst ys) S (fun y news' => news' = news ∧ G c y)) E' { s with heap := h, toks := tk })
    (fin : ∀ ys, Rel2 G y.cps.toList ys → Fin ys news) : CompRest prog w A h₀ L m env elt x scope cl s S (SignAt y) Fin y.cps.size 0 [] news :=
  rest_map (as := y.cps.toList) (iv := fun c v => ∃ u, v = .str ⟨#[c]⟩ u) rfl signs_at (fun c v I oI C oC D m₂ ys h tk E' hm hv hC hx F N off ne => by obtain ⟨u, rfl⟩ := hv; exact turn c u I oI C oC D m₂ ys h tk E' hm hC hx F N off ne) fin
theorem Rel2.ints {f : Nat → Int} {as : List Nat} {vs : List Value} (h : Rel2 (fun c v => ∃ t, v = .int (f c) t) as vs) : IntsAre vs (as.map f) := by
  have key : ∀ {vs : List Value} {ns : List Int} {n : Int} {t : Tok}, IntsAre vs ns → IntsAre (vs ++ [.int n t]) (ns ++ [n]) := by
    intro vs ns n t h
    induction h with
    | nil => exact .cons _ _ .nil
    | cons a b _ ih => exact .cons _ _ ih
  induction h with
  | nil => exact .nil
  | snoc _ hg ih =>
    obtain ⟨t, rfl⟩ := hg
    rw [List.map_append]
    exact key ih
theorem isList_lst {h : Heap} {D : Addr} {ys : List Value} {news : List (Addr × Obj)} (N : News h₀ L h news) (hm : (D, lst ys) ∈ news) : h.IsList D ys.toArray := ⟨_, (N _ hm).1, rfl, _, rfl⟩
theorem ListComp_B {elt iter : Expr} {x : Str} {px : Pos} {scope : Scope} {cl : List (Str × Addr)} {pos : Pos} {Q : Value → Shared → Prop} (F₀ : Fr h₀ L s.heap m)
    (hclos : closureFor scope env = pure cl) (hcell : ∀ y ∈ scope.names, y.2 ≠ .cell) (hkind : scope.kind = .function)
    (hnames : ∀ y ∈ scope.names, y.2 = .local → scope.names.lookup y.1 = some .local) (hx : scope.names.lookup x = some .local)
    (h : wpAny (model prog w) A (eval iter env) (fun xv s₁ => ∃ (b : Array UInt8) (t : Tok) (news : List (Addr × Obj)), xv = .bytes b t ∧ A.handled = none ∧ Fr h₀ L s₁.heap m ∧ News h₀ L s₁.heap news ∧ b.size ≤ sizeLine ∧
      ∀ s₂ : Shared, (∃ h, s₂ = { s₁ with heap := h }) → CompRest prog w A h₀ L m env elt x scope cl s₂ (fun _ => True) (fun i v => ∃ c t, b[i]? = some c ∧ v = .int (c.toNat : Int) t) (FinE h₀ L m s₂ Q) b.size 0 [] news) E s)
    (hs : ∀ x, foldedSetIterable iter env x = pure x := by intro _; rfl) :
    wpAny (model prog w) A (eval (.ListComp elt [⟨.Name x px, iter, [], 0⟩] scope pos) env) Q E s := by
  rw [eval_ListComp]
  refine wpAny_comprehension_free (use := none) rfl hs hclos hkind hnames (wpAny_mono h (fun xv s₁ h₁ => ?_) fun _ _ e => e)
  refine hideG fun Z hZ => ?_
  obtain ⟨b, t, news, rfl, hh, F, N, hsz, R⟩ := h₁
  refine hZ ?_
  clear hZ Z
  have up : ∀ (o : Obj) b o', s₁.heap.get? b = some o' → (s₁.heap.push o).get? b = some o' := fun o b o' e => Heap.get?_push_of_some _ e
  refine KBw.pyIter_bytes ?_
  refine block_U (KBw.walks hh s₁.heap.objs.size b t) hsz (fun i h st => by obtain ⟨o, e, _⟩ := st; exact ⟨o, e⟩) (fun i h h' o nw st e e' _ _ _ => by obtain ⟨o', q, r⟩ := st; rw [e] at q; cases q; exact ⟨o, e', r⟩) hcell hkind hx
    ⟨_, Heap.get?_push_size _ rfl, rfl, rfl⟩ (fun b hb => ?_)
    (F.keeps (up _)) (N.grown (up _)) (Nat.ne_of_lt F.ns.lt) (next_is_new F) (fun p hp => Nat.ne_of_lt (Heap.lt_size (N p hp).1)) trivial (R _ ⟨_, rfl⟩) ?_
  · show b < (s₁.heap.push _).objs.size
    rw [Heap.size_push, List.mem_singleton.mp hb]
    exact Nat.lt_succ_self _
  · intro D C h tk m' ys news' F' N' o1 hn hC₀ hD₀ hCL hDL hCD offC fin
    refine ⟨m', hn, fun h'' hs'' => fin D h'' tk (F'.change hs'' hCL hC₀) (fun p hp => ?_) o1⟩
    refine ⟨hs''.extBut _ _ ?_ (N' p hp).1, (N' p hp).2⟩
    rcases List.mem_cons.mp hp with rfl | hp
    · exact Ne.symm hCD
    · exact offC p hp
theorem rest_octets {G : UInt8 → Value → Prop} {elt : Expr} {x : Str} {scope : Scope} {cl : List (Str × Addr)} {s : Shared} {S : List (Addr × Obj) → Prop} {Fin : List Value → List (Addr × Obj) → Prop} {news : List (Addr × Obj)} {b : Array UInt8}
    (turn : ∀ (c : UInt8) u I oI C oC D m₂ ys h tk (E' : Value → Shared → Prop), c ∈ b.toList → NsObj oC m₂ → m₂ x = some (.int (c.toNat : Int) u) → Fr h₀ L h m → News h₀ L h ((I, oI) :: (C, oC) :: (D, lst ys) :: news) → Off3 I C D news → ((@Ne Nat I C) ∧ (@Ne Nat I D) ∧ (@Ne Nat C D)) →
      wpAny (model prog w) A (eval elt (compEnvC scope cl C env)) (CompEnd h₀ L m { s with heap := h, toks := tk } I oI C oC D (lst ys) S (fun y news' => news' = news ∧ G c y)) E' { s with heap := h, toks := tk })
    (fin : ∀ ys, Rel2 G b.toList ys → Fin ys news) : CompRest prog w A h₀ L m env elt x scope cl s S (fun i v => ∃ c t, b[i]? = some c ∧ v = .int (c.toNat : Int) t) Fin b.size 0 [] news :=
  rest_map (as := b.toList) (iv := fun c v => ∃ u, v = .int (c.toNat : Int) u) rfl (fun i v h => by obtain ⟨c, t, hc, rfl⟩ := h; exact ⟨c, by simpa using hc, t, rfl⟩)
    (fun c v I oI C oC D m₂ ys h tk E' hm hv hC hx F N off ne => by obtain ⟨u, rfl⟩ := hv; exact turn c u I oI C oC D m₂ ys h tk E' hm hC hx F N off ne) fin
theorem Rel2.strs {α : Type} {f : α → Str} {as : List α} {vs : List Value} (h : Rel2 (fun c v => ∃ t, v = .str (f c) t) as vs) : StrsAre vs (as.map f) := by
  have key : ∀ {vs : List Value} {ns : List Str} {n : Str} {t : Tok}, StrsAre vs ns → StrsAre (vs ++ [.str n t]) (ns ++ [n]) := by
    intro vs ns n t h
    induction h with
    | nil => exact .cons _ _ .nil
    | cons a b _ ih => exact .cons _ _ ih
  induction h with
  | nil => exact .nil
  | snoc _ hg ih =>
    obtain ⟨t, rfl⟩ := hg
    rw [List.map_append]
    exact key ih
theorem sum_ones (l : List UInt8) : ((l.map fun c => (⟨#[c.toNat]⟩ : Str)).map (·.length)).sum = l.length := by
  induction l with
  | nil => rfl
  | cons c r ih => rw [List.map_cons, List.map_cons, List.sum_cons, ih, List.length_cons]; exact Nat.add_comm _ _
end
/-- the octets of a text -/
noncomputable def encB (x : Str) : Array UInt8 := ((x.cps.toList.map fun (c : Nat) => (c : Int)).map fun n => n.toNat.toUInt8).toArray
theorem signs_small {x : Str} (hc : x.cps.all (· < 128) = true) : ∀ n ∈ x.cps.toList.map (fun (c : Nat) => (c : Int)), 0 ≤ n ∧ n < 256 := fun n hn => by
  obtain ⟨c, h, rfl⟩ := List.mem_map.mp hn
  have := Array.all_eq_true_iff_forall_mem.mp hc c (by simpa using h)
  have := of_decide_eq_true this
  omega
open LCg in
theorem c_enc {x : Str} {tx : Tok} (hx : x.length ≤ 64) (hc : x.cps.all (· < 128) = true) (B : Below A₀ base outer h₀) (F : Fr h₀ L s.heap m) (X : (KK w.params).In h₀) (N : News h₀ L s.heap news) (T : Top VW LO mean mg mb h₀) (hk : cs.kind = .function) (hd : dp + 2 < recursionLimit) (hu : un + 16 < cLine)
    (ret : ∀ t h' tk', Fr h₀ L h' m → News h₀ L h' news → Q (.bytes (encB x) t) { s with heap := h', toks := tk' }) :
    wpAny (model PR w) (ktrTop dp un gd cn cs L a ccd cl outer) (call (.ref 97) [.str x tx]) Q E s := by
  have sm1 : SMk 1 := trivial
  have hz : x.cps.size ≤ sizeLine := by rw [PySem.sizeLine_eq]; exact Nat.le_trans hx (by decide)
  walk_at "my:in"
  (k_with "eval ListComp" => (first | ((have q9 : SMk 1 := (by with_reducible assumption)); clear q9; (first | (k_here; k_dflt (refine ListComp_S (F₀ := by k_asm) (by with_unfolding_all rfl) (by decide) (by rfl) (by decide) (by rfl) ?_)) | fail)) | fail))
  (k_with "Exists" => (first | ((have q9 : SMk 1 := (by with_reducible assumption)); clear q9; (first | (refine ⟨_, _, _, rfl, rfl, hc, by k_asm, by k_asm, hz, ?_⟩; rintro s₂ ⟨g9, rfl⟩; refine rest_signs (G := fun (c : Nat) v => ∃ t, v = .int (c : Int) t) ?_ ?_) | fail)) | fail))
  (k_with "CompEnd" => (first | ((have q9 : SMk 1 := (by with_reducible assumption)); clear q9; (first | exact compEnd (by k_asm) (by k_asm) (by assumption) trivial ⟨rfl, _, rfl⟩ | fail)) | fail))
  (k_with "call type:bytes" => (first | ((have q9 : SMk 1 := (by with_reducible assumption)); clear q9; (first | (k_here; (rename Rel2 _ _ _ => r9); refine bytes_K (by k_asm) (by k_asm) (isList_lst (by k_asm) (by k_mem)) (Rel2.ints r9) (signs_small hc) (Nat.le_trans (Nat.le_of_eq (Rel2.len r9).symm) hz) rfl ?_; intro h9 t9 k9 F9 N9 _) | fail)) | fail))
  k_steps
  all_goals (exact ret _ _ _ (by k_asm) (by walk_at "my:n"))
theorem layj_14 : True := by
  k_with "call ref" => (first | (k_here; (with_reducible show wpAny _ _ (call (Value.ref 97) [Value.str _ _] _) _ _ _); k_dflt (refine' c_enc (by walk_at "my:le64") (by with_reducible assumption) (by k_asm) (by k_asm) (by k_asm) (by k_asm) (by k_asm) (by first | exact rfl | assumption) (by walk_at "my:room") (by walk_at "my:room") ?_; k_whole); intro t9 h9 tk9 F9 N9; (try dsimp only); (try k_fold)) | fail)
  trivial
/-- the text of octets -/
noncomputable def decT (b : Array UInt8) : Str := Txt.join (Str.ofString "") (b.toList.map fun c => (⟨#[c.toNat]⟩ : Str))
open LCg in
theorem c_dec {b : Array UInt8} {tx : Tok} (hx : b.size ≤ 64) (B : Below A₀ base outer h₀) (F : Fr h₀ L s.heap m) (X : (KK w.params).In h₀) (N : News h₀ L s.heap news) (T : Top VW LO mean mg mb h₀) (hk : cs.kind = .function) (hd : dp + 2 < recursionLimit) (hu : un + 16 < cLine)
    (ret : ∀ t h' tk', Fr h₀ L h' m → News h₀ L h' news → Q (.str (decT b) t) { s with heap := h', toks := tk' }) :
    wpAny (model PR w) (ktrTop dp un gd cn cs L a ccd cl outer) (call (.ref 107) [.bytes b tx]) Q E s := by
  have sm2 : SMk 2 := trivial
  have hz : b.size ≤ sizeLine := by rw [PySem.sizeLine_eq]; exact Nat.le_trans hx (by decide)
  have hj : ((b.toList.map fun c => (⟨#[c.toNat]⟩ : Str)).map (·.length)).sum + (b.toList.map fun c => (⟨#[c.toNat]⟩ : Str)).length * (Str.ofString "").length ≤ 16777216 := by
    rw [sum_ones, show (Str.ofString "").length = 0 from rfl, Nat.mul_zero, Nat.add_zero]
    exact Nat.le_trans hx (by decide)
  walk_at "my:in"
  (k_with "eval ListComp" => (first | ((have q9 : SMk 2 := (by with_reducible assumption)); clear q9; (first | (k_here; k_dflt (refine ListComp_B (F₀ := by k_asm) (by with_unfolding_all rfl) (by decide) (by rfl) (by decide) (by rfl) ?_)) | fail)) | fail))
  (k_with "Exists" => (first | ((have q9 : SMk 2 := (by with_reducible assumption)); clear q9; (first | (refine ⟨_, _, _, rfl, rfl, by k_asm, by k_asm, hz, ?_⟩; rintro s₂ ⟨g9, rfl⟩; refine rest_octets (G := fun c v => ∃ t, v = .str ⟨#[c.toNat]⟩ t) ?_ ?_; intro c9 u9 I9 oI9 C9 oC9 D9 m9 ys9 h9 tk9 E9 hm9; (have cl9 : (c9.toNat : Int) < 256 := by have := c9.toNat_lt; omega)) | fail)) | fail))
  (k_with "call builtin:chr" => (first | ((have q9 : SMk 2 := (by with_reducible assumption)); clear q9; (first | (k_here; refine chr_of_range (Int.natCast_nonneg _) (by omega) ?_) | fail)) | fail))
  (k_with "CompEnd" => (first | ((have q9 : SMk 2 := (by with_reducible assumption)); clear q9; (first | exact compEnd (by k_asm) (by k_asm) (by assumption) trivial ⟨rfl, _, rfl⟩ | fail)) | fail))
  (k_with "call builtin:str.join" => (first | ((have q9 : SMk 2 := (by with_reducible assumption)); clear q9; (first | (k_here; (rename Rel2 _ _ _ => r9); refine join_list (isList_lst (by k_asm) (by k_mem)) (Rel2.strs r9) hj ?_; intro t9 k9) | fail)) | fail))
  k_steps
  all_goals (exact ret _ _ _ (by k_asm) (by walk_at "my:n"))
/-! ## a for loop over a walked source, its ledger free to change -/
section
open LCg
variable {prog : Program} {A : Around} {env : Env}
def ForEnd (h₀ : Heap) (L : Addr) (s : Shared) (I : Addr) (oI : Obj) (S : List (Addr × Obj) → Prop) (J : (Str → Option Value) → List (Addr × Obj) → Prop) (s' : Shared) : Prop :=
  ∃ h' tk' m' news', s' = { s with heap := h', toks := tk' } ∧ Fr h₀ L h' m' ∧ News h₀ L h' ((I, oI) :: news') ∧ (∀ p ∈ news', p.1 ≠ I) ∧ S news' ∧ J m' news'
theorem ForEnd.mk {h₀ : Heap} {L : Addr} {s : Shared} {I : Addr} {oI : Obj} {S : List (Addr × Obj) → Prop} {J : (Str → Option Value) → List (Addr × Obj) → Prop} {h' : Heap} {tk' : Tok} {m' : Str → Option Value} {news' : List (Addr × Obj)}
    (F : Fr h₀ L h' m') (N : News h₀ L h' ((I, oI) :: news')) (off : ∀ p ∈ news', p.1 ≠ I) (hS : S news') (hJ : J m' news') : ForEnd h₀ L s I oI S J { s with heap := h', toks := tk' } := ⟨h', tk', m', news', rfl, F, N, off, hS, hJ⟩
def ForPost (h₀ : Heap) (L : Addr) (s : Shared) (I : Addr) (oI : Obj) (S : List (Addr × Obj) → Prop) (J : (Str → Option Value) → List (Addr × Obj) → Prop) (R : Result → Shared → Prop) (f : Flow) (s' : Shared) : Prop :=
  match f with
  | .next | .cont => ForEnd h₀ L s I oI S J s'
  | .brk => R (.ok .next) s'
  | .ret v => R (.ok (.ret v)) s'
theorem for_W {R : Result → Shared → Prop} {x : Str} {px : Pos} {body : List Stmt} {I : Addr} {fp : List Addr} {n : Nat} {P : Nat → Value → Prop} {St : Nat → Heap → Prop} {S : List (Addr × Obj) → Prop}
    (W : Walks prog w A I fp [I] n P St) (hIo : ∀ i h, St i h → ∃ o, h.get? I = some o)
    (hSt : ∀ i h h' o nw, St i h → h.get? I = some o → h'.get? I = some o → (∀ b o, h₀.get? b = some o → h'.get? b = some o) → News h₀ env.locals h' nw → S nw → St i h')
    (hx : env.kindOf x = some .local) (hp : (env.scope.kind == .class || (env.scope.kind == .module && env.locals != env.globals)) = false)
    (hIL : env.locals ≠ I) (hLf : env.locals ∉ fp) (hI₀ : h₀.get? I = none) (off : ∀ p ∈ news, p.1 ≠ I) (hst : St 0 s.heap) (F : Fr h₀ env.locals s.heap m) (N : News h₀ env.locals s.heap news) (hS : S news)
    (J : Nat → (Str → Option Value) → List (Addr × Obj) → Prop) (h0 : J 0 m news)
    (step : ∀ i v oI m₁ news₁ h tk, i < n → P i v → J i m₁ news₁ → (∀ p ∈ news₁, p.1 ≠ I) → S news₁ → Fr h₀ env.locals h (fun y => if y = x then some v else m₁ y) → News h₀ env.locals h ((I, oI) :: news₁) →
      wpAny (model prog w) A (execs body env) (ForPost h₀ env.locals s I oI S (J (i + 1)) R) (notedBy (model prog w) A env fun e s' => R (.error e) s') { s with heap := h, toks := tk })
    (fin : ∀ h' tk m' news', Fr h₀ env.locals h' m' → News h₀ env.locals h' news' → J n m' news' → R (.ok .next) { s with heap := h', toks := tk }) :
    codeAny (model prog w) A (.forLoop (.Name x px) (.ref I) body [] env) R s := by
  refine codeAny_forLoop
    (fun k s' => ∃ h' tk m' news' i, s' = { s with heap := h', toks := tk } ∧ St i h' ∧ Fr h₀ env.locals h' m' ∧ News h₀ env.locals h' news' ∧ (∀ p ∈ news', p.1 ≠ I) ∧ S news' ∧ J i m' news' ∧ i ≤ n ∧ k = n + 1 - i) ?_ (n + 1)
    ⟨s.heap, s.toks, m, news, 0, rfl, hst, F, N, off, hS, h0, Nat.zero_le _, rfl⟩
  intro k s' hI
  refine hideG fun Z hZ => ?_
  refine ex5 hI ?_
  clear hI
  intro h' tk m' news' i hI
  refine an9 hI ?_
  clear hI
  intro e0 hst' F' N' off' hS' hJ hi e1
  subst e0 e1
  refine hZ ?_
  clear hZ Z
  by_cases hlt : i < n
  · refine W.item i _ _ _ hlt hst' fun v h₁ tk₁ hP hst₁ hk₁ => ?_
    have F₁ := fr_but F' hk₁ hIL hI₀
    have N₁ := news_but N' hk₁ off'
    refine wpAny_assign_Name (wpAny_storeName_local hx F₁.ns (fun h₂ hn₂ hs₂ => ?_) hp)
    have F₂ := F₁.set hn₂ hs₂
    have hst₂ : St (i + 1) h₂ := W.frame _ _ _ hst₁ fun b hb o e => hs₂.extBut b o (fun q => hLf (q ▸ hb)) e
    obtain ⟨oI, heI⟩ := hIo _ _ hst₂
    have N₂ : News h₀ env.locals h₂ ((I, oI) :: news') := fun p hp => by
      rcases List.mem_cons.mp hp with rfl | hp
      · exact ⟨heI, Ne.symm hIL, hI₀⟩
      · exact N₁.set hs₂ p hp
    refine wpAny_mono (step i v oI m' news' h₂ _ hlt hP hJ off' hS' F₂ N₂) (fun f s₃ h₃ => ?_) fun _ _ e => e
    have go : ForEnd h₀ env.locals s I oI S (J (i + 1)) s₃ → ∃ m, m < n + 1 - i ∧ ∃ h' tk m' news' i, s₃ = { s with heap := h', toks := tk } ∧ St i h' ∧ Fr h₀ env.locals h' m' ∧ News h₀ env.locals h' news' ∧ (∀ p ∈ news', p.1 ≠ I) ∧ S news' ∧ J i m' news' ∧ i ≤ n ∧ m = n + 1 - i := by
      rintro ⟨h₃', tk₃, m₃, news₃, rfl, F₃, N₃, off₃, hS₃, hJ₃⟩
      have N₃' : News h₀ env.locals h₃' news₃ := fun p hp => N₃ p (List.mem_cons_of_mem _ hp)
      exact ⟨n + 1 - (i + 1), Nat.sub_lt_sub_left (Nat.lt_succ_of_lt hlt) (Nat.lt_succ_self i), h₃', tk₃, m₃, news₃, i + 1, rfl, hSt _ _ _ _ _ hst₂ heI (N₃ _ List.mem_cons_self).1 F₃.keep N₃' hS₃, F₃, N₃', off₃, hS₃, hJ₃, hlt, rfl⟩
    cases f with
    | ret v => exact h₃
    | brk => exact h₃
    | cont => exact go h₃
    | next => exact go h₃
  · obtain rfl : i = n := Nat.le_antisymm hi (Nat.not_lt.mp hlt)
    refine W.done _ _ _ hst' fun h₁ tk₁ hk₁ => wpAny_execs_nil ?_
    exact fin h₁ tk₁ m' news' (fr_but F' hk₁ hIL hI₀) (news_but N' hk₁ off') hJ
def ForSrcR (prog : Program) (w : World) (A : Around) (E : Value → Shared → Prop) (env : Env) (h₀ : Heap) (x : Str) (body : List Stmt) (Q : Flow → Shared → Prop) (xv : Value) (s₁ : Shared) : Prop :=
  ∀ Z : Prop, (∀ (r : Addr) (a b : Int) (t u v : Tok) (n : Nat) (m : Str → Option Value) (news : List (Addr × Obj)) (J : Nat → (Str → Option Value) → List (Addr × Obj) → Prop),
      xv = .ref r → A.handled = none → Fr h₀ env.locals s₁.heap m → News h₀ env.locals s₁.heap news → IsRange s₁.heap r a b 1 t u v → Builtin.Range.small a b 1 = true → Builtin.Range.rangeSize a b 1 = ((n : Nat) : Int) → J 0 m news →
      (∀ i v I oI m₁ news₁ h tk, i < n → (∃ t, v = .int (a + (i : Int)) t) → J i m₁ news₁ → (∀ p ∈ news₁, p.1 ≠ I) → Fr h₀ env.locals h (fun y => if y = x then some v else m₁ y) → News h₀ env.locals h ((I, oI) :: news₁) →
        wpAny (model prog w) A (execs body env) (ForPost h₀ env.locals s₁ I oI (fun _ => True) (J (i + 1)) (fun r s' => match r with | .ok f => Q f s' | .error e => cameBackBy (model prog w) A env E e s'))
          (notedBy (model prog w) A env fun e s' => cameBackBy (model prog w) A env E e s') { s₁ with heap := h, toks := tk }) →
      (∀ h' tk m' news', Fr h₀ env.locals h' m' → News h₀ env.locals h' news' → J n m' news' → Q .next { s₁ with heap := h', toks := tk }) → Z) → Z
theorem ForSrcR.intro {E : Value → Shared → Prop} {h₀ : Heap} {x : Str} {body : List Stmt} {Q : Flow → Shared → Prop} {s₁ : Shared} {r : Addr} {a b : Int} {t u v : Tok} {n : Nat} {m : Str → Option Value} {news : List (Addr × Obj)} (J : Nat → (Str → Option Value) → List (Addr × Obj) → Prop)
    (hh : A.handled = none) (F : Fr h₀ env.locals s₁.heap m) (N : News h₀ env.locals s₁.heap news) (hr : IsRange s₁.heap r a b 1 t u v) (hsm : Builtin.Range.small a b 1 = true) (hn : Builtin.Range.rangeSize a b 1 = ((n : Nat) : Int)) (h0 : J 0 m news)
    (step : ∀ i t I oI m₁ news₁ h tk, i < n → J i m₁ news₁ → (∀ p ∈ news₁, p.1 ≠ I) → Fr h₀ env.locals h (fun y => if y = x then some (.int (a + ((i : Nat) : Int)) t) else m₁ y) → News h₀ env.locals h ((I, oI) :: news₁) →
        wpAny (model prog w) A (execs body env) (ForPost h₀ env.locals s₁ I oI (fun _ => True) (J (i + 1)) (fun r s' => match r with | .ok f => Q f s' | .error e => cameBackBy (model prog w) A env E e s'))
          (notedBy (model prog w) A env fun e s' => cameBackBy (model prog w) A env E e s') { s₁ with heap := h, toks := tk })
    (fin : ∀ h' tk m' news', Fr h₀ env.locals h' m' → News h₀ env.locals h' news' → J n m' news' → Q .next { s₁ with heap := h', toks := tk }) : ForSrcR prog w A E env h₀ x body Q (.ref r) s₁ :=
  fun _ k9 => k9 r a b t u v n m news J rfl hh F N hr hsm hn h0 (fun i v I oI m₁ news₁ h tk hi hv hJ off F' N' => by obtain ⟨t', rfl⟩ := hv; exact step i t' I oI m₁ news₁ h tk hi hJ off F' N') fin
theorem For_R {x : Str} {px pos : Pos} {iter : Expr} {body : List Stmt} {Q : Flow → Shared → Prop} {m₀ : Str → Option Value} (_ : Fr h₀ env.locals s.heap m₀)
    (hx : env.kindOf x = some .local) (hp : (env.scope.kind == .class || (env.scope.kind == .module && env.locals != env.globals)) = false)
    (h : wpAny (model prog w) A (eval iter env) (ForSrcR prog w A E env h₀ x body Q) E s)
    (hs : ∀ x, foldedSetIterable iter env x = pure x := by intro _; rfl) :
    wpAny (model prog w) A (exec (.For (.Name x px) iter body [] pos) env) Q E s := by
  refine wpAny_For (wpAny_mono h (fun xv s₁ h₁ => ?_) fun _ _ e => e) hs
  refine h₁ _ ?_
  clear h₁
  intro r a b t u v n m news J e9 hh F N hr hsm hn h0 step fin
  subst e9
  refine wpAny_pyIter_range hr hsm ?_
  have up : ∀ (o : Obj) b o', s₁.heap.get? b = some o' → (s₁.heap.push o).get? b = some o' := fun o b o' e => Heap.get?_push_of_some _ e
  have hI : s₁.heap.get? s₁.heap.objs.size = none := by
    cases e : s₁.heap.get? s₁.heap.objs.size with
    | none => rfl
    | some o' => exact absurd (Heap.lt_size e) (Nat.lt_irrefl _)
  refine for_W (S := fun _ => True) (range_walks (I := s₁.heap.objs.size) hh a n) (fun i h st => ⟨_, st⟩) (fun i h h' o nw st e e' k N' _ => range_st (h₀ := h₀) i h h' o nw st e e' k N' trivial) hx hp (Nat.ne_of_lt F.ns.lt)
    (fun q => Nat.ne_of_lt F.ns.lt (List.mem_singleton.mp q)) (next_is_new F) (fun p hp => Nat.ne_of_lt (Heap.lt_size (N p hp).1))
    (by show IsRangeIter _ _ _ _ _; rw [hn]; simpa using Heap.get?_push_size _ rfl) (F.keeps (up _)) (N.grown (up _)) trivial J h0 ?_ ?_
  · intro i v oI m₁ news₁ h tk hlt hP hJ off _ F' N'
    exact step i v _ oI m₁ news₁ h tk hlt hP hJ off F' N'
  · intro h' tk m' news' F' N' hJ
    exact fin h' tk m' news' F' N' hJ
end
theorem forIn_last (c : Nat → Prop) [DecidablePred c] : ∀ (l : List Nat) (b : Option Nat), (forIn (m := Id) l b fun i s => if c i then pure (ForInStep.yield (some i)) else pure (ForInStep.yield s)) = l.foldl (fun last i => if c i then some i else last) b
  | [], _ => rfl
  | a :: l, b => by
    rw [List.forIn_cons, List.foldl_cons]
    by_cases h : c a
    · rw [if_pos h, if_pos h]; exact forIn_last c l _
    · rw [if_neg h, if_neg h]; exact forIn_last c l _
theorem last_fold (s sub : Str) (lo hi : Nat) : Builtin.Str.lastOccurrence s sub lo hi = (List.range' lo (hi + 1 - lo)).foldl (fun last i => if i + sub.length ≤ hi ∧ Builtin.Str.subAt s sub i = true then some i else last) none := by
  unfold Builtin.Str.lastOccurrence
  simp only [Std.Legacy.Range.forIn_eq_forIn_range', Std.Legacy.Range.size, Id.run]
  simp
  exact forIn_last (fun i => i + sub.length ≤ hi ∧ Builtin.Str.subAt s sub i = true) _ _
/-- the last place of a sign: what the fold keeps -/
theorem fold_last (c : Nat → Prop) [DecidablePred c] : ∀ (n lo : Nat) (b : Option Nat), (∀ k, b = some k → k < lo ∧ c k ∧ ∀ j, k < j → j < lo → ¬ c j) → (b = none → ∀ j, j < lo → ¬ c j) →
    let r := (List.range' lo n).foldl (fun last i => if c i then some i else last) b
    (∀ k, r = some k → k < lo + n ∧ c k ∧ ∀ j, k < j → j < lo + n → ¬ c j) ∧ (r = none → ∀ j, j < lo + n → ¬ c j)
  | 0, lo, b, h1, h2 => ⟨h1, h2⟩
  | n + 1, lo, b, h1, h2 => by
    rw [List.range'_succ, List.foldl_cons]
    have e : lo + (n + 1) = (lo + 1) + n := by omega
    rw [e]
    by_cases h : c lo
    · rw [if_pos h]
      refine fold_last c n (lo + 1) _ (fun k hk => ?_) (fun q => by cases q)
      cases hk
      exact ⟨Nat.lt_succ_self _, h, fun j h3 h4 => by omega⟩
    · rw [if_neg h]
      refine fold_last c n (lo + 1) _ (fun k hk => ?_) (fun q j hj => ?_)
      · obtain ⟨a1, a2, a3⟩ := h1 k hk
        refine ⟨Nat.lt_succ_of_lt a1, a2, fun j h3 h4 => ?_⟩
        by_cases q : j = lo
        · exact q ▸ h
        · exact a3 j h3 (by omega)
      · by_cases q' : j = lo
        · exact q' ▸ h
        · exact h2 q j (by omega)
theorem rfind_spec (x y : Str) : (∃ k : Nat, Txt.rfind x y = (k : Int) ∧ k + y.length ≤ x.length ∧ Builtin.Str.subAt x y k = true ∧ ∀ j, k < j → j ≤ x.length → ¬ (j + y.length ≤ x.length ∧ Builtin.Str.subAt x y j = true)) ∨
    (Txt.rfind x y = -1 ∧ ∀ j, j ≤ x.length → ¬ (j + y.length ≤ x.length ∧ Builtin.Str.subAt x y j = true)) := by
  have h := fold_last (fun i => i + y.length ≤ x.length ∧ Builtin.Str.subAt x y i = true) (x.length + 1 - 0) 0 none (fun k q => by cases q) (fun _ j hj => absurd hj (Nat.not_lt_zero j))
  rw [← last_fold x y 0 x.length] at h
  obtain ⟨h1, h2⟩ := h
  unfold Txt.rfind
  cases q : Builtin.Str.lastOccurrence x y 0 x.length with
  | some k =>
    obtain ⟨a1, a2, a3⟩ := h1 k q
    exact .inl ⟨k, rfl, a2.1, a2.2, fun j b1 b2 => a3 j b1 (by omega)⟩
  | none => exact .inr ⟨rfl, fun j b => h2 q j (by omega)⟩
theorem subAt_one {x : Str} {c k : Nat} : Builtin.Str.subAt x ⟨#[c]⟩ k = true ↔ x.cps[k]? = some c := by
  unfold Builtin.Str.subAt
  rw [beq_iff_eq]
  show x.cps.extract k (k + 1) = #[c] ↔ _
  constructor
  · intro h
    have := congrArg (fun a : Array Nat => a[0]?) h
    simp only [Array.getElem?_extract] at this
    simp at this
    exact this.2
  · intro h
    have hk : k < x.cps.size := by
      rcases Nat.lt_or_ge k x.cps.size with q | q
      · exact q
      · rw [Array.getElem?_eq_none q] at h; cases h
    apply Array.ext
    · rw [Array.size_extract]; simp; omega
    · intro i h1 h2
      have : i = 0 := by simp at h2; omega
      subst this
      simp only [Array.getElem_extract]
      rw [Array.getElem?_eq_getElem hk] at h
      simpa using h
def SplitIs (x a b : Str) : Prop :=
  ((∃ j : Nat, (j : Int) < Txt.rfind x (Str.ofString ".") ∧ x.cps[j]? ≠ some 46) ∧ a = Txt.slice x none (some (Txt.rfind x (Str.ofString "."))) ∧ b = Txt.slice x (some (Txt.rfind x (Str.ofString "."))) none) ∨
  ((∀ j : Nat, (j : Int) < Txt.rfind x (Str.ofString ".") → x.cps[j]? = some 46) ∧ a = x ∧ b = Str.ofString "")
theorem rfind_bounds (x y : Str) : -1 ≤ Txt.rfind x y ∧ Txt.rfind x y ≤ x.length := by
  rcases rfind_spec x y with ⟨k, e, h, _⟩ | ⟨e, _⟩
  · rw [e]; omega
  · rw [e]; omega
theorem no_slash {x : Str} (h : ∀ j : Nat, x.cps[j]? ≠ some 47) : Txt.rfind x (Str.ofString "/") = -1 := by
  rcases rfind_spec x (Str.ofString "/") with ⟨k, _, _, s, _⟩ | ⟨e, _⟩
  · exact absurd ((subAt_one (c := 47)).mp s) (h k)
  · exact e
theorem seq_at {i n : Nat} (h : i < n) : seqIndex? (i : Int) n = some i := by
  unfold seqIndex?
  have h1 : ¬ ((i : Int) < 0) := by omega
  simp only [if_neg h1]
  rw [if_pos (by simp; omega)]
  rfl
theorem item_at {x : Str} {i : Nat} (h : i < x.length) : ∃ c, x.cps[i]? = some c ∧ Txt.item x (i : Int) = ⟨#[c]⟩ := by
  have h' : i < x.cps.size := h
  refine ⟨x.cps[i], Array.getElem?_eq_getElem h', ?_⟩
  unfold Txt.item Txt.charAt
  rw [seq_at h]
  show (⟨#[(x.cps[i]?).getD 0]⟩ : Str) = _
  rw [Array.getElem?_eq_getElem h']
  rfl
theorem split_len {x a b : Str} (hx : x.length ≤ 64) (h : SplitIs x a b) : a.length ≤ 64 ∧ b.length ≤ 64 := by
  rcases h with ⟨_, rfl, rfl⟩ | ⟨_, rfl, rfl⟩
  · exact ⟨Nat.le_trans (_root_.PyProof.Txt.length_slice_le x _ _) hx, Nat.le_trans (_root_.PyProof.Txt.length_slice_le x _ _) hx⟩
  · exact ⟨hx, Nat.zero_le _⟩
theorem bne_dot {a b : Str} (h : (a != b) = false) : a = b := by
  rw [bne, Bool.not_eq_false', beq_iff_eq] at h
  exact h
theorem one_of_eq {c d : Nat} (h : (⟨#[c]⟩ : Str) = ⟨#[d]⟩) : c = d := by
  simpa using h
theorem c_split {x : Str} {tx : Tok} (hx : x.length ≤ 64) (hns : ∀ j : Nat, x.cps[j]? ≠ some 47) (B : Below A₀ base outer h₀) (F : Fr h₀ L s.heap m) (X : (KK w.params).In h₀) (N : News h₀ L s.heap news) (T : Top VW LO mean mg mb h₀) (hk : cs.kind = .function) (hd : dp + 2 < recursionLimit) (hu : un + 16 < cLine)
    (ret : ∀ l a b t1 t2 h' tk', SplitIs x a b → Fr h₀ L h' m → News h₀ L h' ((l, { cls := .type "tuple", data := .seq #[.str a t1, .str b t2] 0 }) :: news) → Q (.ref l) { s with heap := h', toks := tk' }) :
    wpAny (model PR w) (ktrTop dp un gd cn cs L a ccd cl outer) (call (.ref 119) [.str x tx]) Q E s := by
  have sm3 : SMk 3 := trivial
  have hz : x.length ≤ sizeLine := by rw [PySem.sizeLine_eq]; exact Nat.le_trans hx (by decide)
  have hb1 := rfind_bounds x (Str.ofString ".")
  have hb2 := no_slash hns
  walk_at "my:in"
  (k_with "call builtin:str.rfind" => (first | ((have q9 : SMk 3 := (by with_reducible assumption)); clear q9; (first | (k_here; refine SC.rfind ?_; (try rw [hb2])) | fail)) | fail))
  (k_with "exec For Name Call cons nil" => (first | ((have q9 : SMk 3 := (by with_reducible assumption)); clear q9; (first | (k_here; k_dflt (refine For_R (by k_asm) (by rfl) (by rfl) ?_)) | fail)) | fail))
  k_steps
  refine ForSrcR.intro (fun i m₁ nw => nw = news ∧ m₁ (Str.ofString "path") = some (.str x tx) ∧ (∃ t, m₁ (Str.ofString "dot") = some (.int (Txt.rfind x (Str.ofString ".")) t)) ∧ ∀ j : Nat, j < i → x.cps[j]? = some 46) rfl (by k_asm) (by k_asm) (by assumption) (small_one (by decide) (by decide) (by omega) (by omega)) (rangeSize_nat _ _) ⟨rfl, rfl, ⟨_, rfl⟩, fun j h => absurd h (Nat.not_lt_zero j)⟩ ?_ ?_
  · intro i9 t9 I9 oI9 m9 nw9 h9 tk9 hi9 hJ9 off9 F9 N9
    obtain ⟨en9, lp9, ⟨td9, ld9⟩, hj9⟩ := hJ9
    rw [en9] at N9 off9
    have e0 : fo [(Str.ofString "path", .str x tx), (Str.ofString "dot", .int (Txt.rfind x (Str.ofString ".")) td9)] m9 = m9 := fo_cons lp9 (fo_cons ld9 fo_nil)
    have e1 : (-1 : Int) + 1 + (i9 : Int) = (i9 : Int) := by omega
    have hi : i9 < x.length := by omega
    obtain ⟨c9, hc9, hit9⟩ := item_at hi
    rw [e1] at F9
    replace F9 := e0.symm ▸ F9
    k_steps
    · skip
      dsimp only [qk, ForPost]
      k_steps
      all_goals (refine ret _ _ _ _ _ _ _ (.inl ⟨⟨i9, by omega, fun q => ?_⟩, rfl, rfl⟩) (by k_asm) (by walk_at "my:n"))
      (rename (_ != Str.ofString ".") = true => w9)
      rw [hit9, hc9.symm.trans q |> Option.some.inj] at w9
      exact absurd w9 (by decide)
    · refine ForEnd.mk F9 N9 off9 trivial ⟨rfl, by exact rfl, ⟨_, by exact rfl⟩, fun j hj => ?_⟩
      (rename (_ != Str.ofString ".") = false => w9)
      rcases Nat.lt_succ_iff_lt_or_eq.mp hj with h | rfl
      · exact hj9 j h
      · rw [hit9] at w9
        exact hc9.trans (congrArg some (one_of_eq (d := 46) (bne_dot w9)))
  · intro h9 tk9 m9 nw9 F9 N9 hJ9
    obtain ⟨en9, lp9, ⟨td9, ld9⟩, hj9⟩ := hJ9
    rw [en9] at N9
    have e0 : fo [(Str.ofString "path", .str x tx), (Str.ofString "dot", .int (Txt.rfind x (Str.ofString ".")) td9)] m9 = m9 := fo_cons lp9 (fo_cons ld9 fo_nil)
    replace F9 := e0.symm ▸ F9
    dsimp only
    k_steps
    all_goals (refine ret _ _ _ _ _ _ _ (.inr ⟨fun j hj => hj9 j (by omega), rfl, rfl⟩) (by k_asm) (by walk_at "my:n"))
theorem layj_19 : True := by
  k_with "call ref" => (first | (k_here; (with_reducible show wpAny _ _ (call (Value.ref 119) _ _) _ _ _); k_dflt (refine' c_split (by walk_at "my:le64") (by with_reducible assumption) (by k_asm) (by k_asm) (by k_asm) (by k_asm) (by k_asm) (by first | exact rfl | assumption) (by walk_at "my:room") (by walk_at "my:room") ?_; k_whole); intro l9 a9 b9 t19 t29 h9 tk9 sp9 F9 N9; (have y9 := (split_len (by with_reducible assumption) sp9).1); (have z9 := (split_len (by with_reducible assumption) sp9).2); (try dsimp only); (try k_fold)) | fail)
  trivial
open LCg in
theorem c_encm {x : Str} {tx : Tok} (hx : x.length ≤ 64) (hc : x.cps.all (· < 128) = true) (B : Below A₀ base outer h₀) (F : Fr h₀ L s.heap m) (X : (KK w.params).In h₀) (N : News h₀ L s.heap news) (T : Top VW LO mean mg mb h₀) (hk : cs.kind = .function) (hd : dp + 2 < recursionLimit) (hu : un + 16 < cLine)
    (ret : ∀ t h' tk', Fr h₀ L h' m → News h₀ L h' news → Q (.bytes (encB x) t) { s with heap := h', toks := tk' }) :
    wpAny (model PR w) (ktrTop dp un gd cn cs L a ccd cl outer) (call (.ref 102) [.str x tx]) Q E s := by
  have sm4 : SMk 4 := trivial
  have hz : x.cps.size ≤ sizeLine := by rw [PySem.sizeLine_eq]; exact Nat.le_trans hx (by decide)
  have hc' : ∀ c ∈ x.cps.toList, c < 128 := fun c h => of_decide_eq_true (Array.all_eq_true_iff_forall_mem.mp hc c (by simpa using h))
  walk_at "my:in"
  (k_with "eval ListComp" => (first | ((have q9 : SMk 4 := (by with_reducible assumption)); clear q9; (first | (k_here; k_dflt (refine ListComp_S (F₀ := by k_asm) (by with_unfolding_all rfl) (by decide) (by rfl) (by decide) (by rfl) ?_)) | fail)) | fail))
  (k_with "Exists" => (first | ((have q9 : SMk 4 := (by with_reducible assumption)); clear q9; (first | (refine ⟨_, _, _, rfl, rfl, hc, by k_asm, by k_asm, hz, ?_⟩; rintro s₂ ⟨g9, rfl⟩; refine rest_signs (G := fun (c : Nat) v => ∃ t, v = .int (c : Int) t) ?_ ?_; intro c9 u9 I9 oI9 C9 oC9 D9 m9 ys9 h9 tk9 E9 hm9; (have cl9 := hc' _ hm9)) | fail)) | fail))
  (k_with "CompEnd" => (first | ((have q9 : SMk 4 := (by with_reducible assumption)); clear q9; (first | exact compEnd (by k_asm) (by k_asm) (by assumption) trivial ⟨rfl, _, rfl⟩ | fail)) | fail))
  (k_with "call type:bytes" => (first | ((have q9 : SMk 4 := (by with_reducible assumption)); clear q9; (first | (k_here; (rename Rel2 _ _ _ => r9); refine bytes_K (by k_asm) (by k_asm) (isList_lst (by k_asm) (by k_mem)) (Rel2.ints r9) (signs_small hc) (Nat.le_trans (Nat.le_of_eq (Rel2.len r9).symm) hz) rfl ?_; intro h9 t9 k9 F9 N9 _) | fail)) | fail))
  k_steps
  all_goals (exact ret _ _ _ (by k_asm) (by walk_at "my:n"))
/-! ## a loop's end while an exception is handled -/
def HMem (hdl : Option Value) (nw : List (Addr × Obj)) : Prop := match hdl with
  | none => True
  | some v => ∃ e oe ws, v = .ref e ∧ (e, oe) ∈ nw ∧ oe.data = .fields ws ∧ ws[2]? = some .none
theorem HMem.mono {hdl : Option Value} {nw nw' : List (Addr × Obj)} (h : HMem hdl nw) (hs : ∀ p ∈ nw, p ∈ nw') : HMem hdl nw' := by
  cases hdl with
  | none => trivial
  | some v => obtain ⟨e, oe, ws, h1, h2, h3, h4⟩ := h; exact ⟨e, oe, ws, h1, hs _ h2, h3, h4⟩
def HOk (hdl : Option Value) (h : Heap) : Prop := match hdl with
  | none => True
  | some v => ∃ e oe ws, v = .ref e ∧ h.get? e = some oe ∧ oe.data = .fields ws ∧ ws[2]? = some .none
theorem HMem.ok {hdl : Option Value} {nw : List (Addr × Obj)} {h : Heap} (x : HMem hdl nw) (N : News h₀ L h nw) : HOk hdl h := by
  cases hdl with
  | none => trivial
  | some v => obtain ⟨e, oe, ws, h1, h2, h3, h4⟩ := x; exact ⟨e, oe, ws, h1, (N _ h2).1, h3, h4⟩
theorem HOk.keeps {hdl : Option Value} {h h' : Heap} (x : HOk hdl h) (k : ∀ b o, h.get? b = some o → h'.get? b = some o) : HOk hdl h' := by
  cases hdl with
  | none => trivial
  | some v => obtain ⟨e, oe, ws, h1, h2, h3, h4⟩ := x; exact ⟨e, oe, ws, h1, k _ _ h2, h3, h4⟩
theorem un_entry : entryFor table "proto.unchain" = some Builtin.«proto.unchain» := entryFor_of_tree (by kernel_rfl)
section
variable {prog : Program} {A : Around} {α : Type}
theorem rn_H {a : Addr} {oa : Obj} {va : Array Value} {Q : α → Shared → Prop} (hok : HOk A.handled s.heap) (hnew : ∀ e, A.handled = some (.ref e) → e ≠ a) (ha : s.heap.get? a = some oa) (hd : oa.data = .fields va) (hz : 2 < va.size)
    (h : ∀ h', Heap.ExtBut a s.heap h' → (∃ o', h'.get? a = some o' ∧ o'.cls = oa.cls) → E (.ref a) { s with heap := h' }) : wpAny (model prog w) A (raiseNew (.ref a) : Sem α) Q E s := by
  cases hh : A.handled with
  | none => exact wpAny_raiseNew_none hh (h s.heap (fun b o _ e => e) ⟨oa, ha, rfl⟩)
  | some v =>
    rw [hh] at hok
    obtain ⟨e, oe, ws, rfl, he, hed, hw2⟩ := hok
    have hne := hnew e hh
    unfold raiseNew
    refine wpAny_bind (wpAny_handled ?_)
    rw [hh]
    dsimp only
    rw [if_pos (by simp [hne])]
    refine wpAny_bind (wpAny_holding (wpAny_runValue (codeAny_builtin un_entry ?_)))
    unfold Builtin.«proto.unchain»
    refine wpAny_bind (wpAny_field he hed hw2 ?_)
    refine wpAny_ite_true (by decide) (wpAny_bind (wpAny_pure ?_))
    refine wpAny_pure ?_
    show wpAny _ _ (updateField a 2 (.ref e) >>= fun _ => throw (.ref a)) _ _ _
    unfold updateField
    refine wpAny_bind (wpAny_bind (wpAny_load ha ?_))
    rw [hd]
    dsimp only
    rw [if_pos hz]
    refine wpAny_update ha ?_
    refine wpAny_throw (h _ (fun b o hb eb => (Heap.get?_update_ne _ _ _ _ hb).trans eb) ⟨_, Heap.get?_update_self _ ha (Obj.isFreed_of_fields (Obj.data_mapFields hd _)), Obj.cls_mapFields ..⟩)
theorem HOk.but {hdl : Option Value} {h h' : Heap} {it : Addr} (x : HOk hdl h) (hne : ∀ e, hdl = some (.ref e) → e ≠ it) (k : Heap.ExtBut it h h') : HOk hdl h' := by
  cases hdl with
  | none => trivial
  | some v => obtain ⟨e, oe, ws, rfl, h2, h3, h4⟩ := x; exact ⟨e, oe, ws, rfl, k _ _ (hne e rfl) h2, h3, h4⟩
theorem HOk.lt {hdl : Option Value} {h : Heap} (x : HOk hdl h) {e : Addr} (he : hdl = some (.ref e)) : e < h.objs.size := by
  subst he
  obtain ⟨e', oe, ws, q, h2, _⟩ := x
  cases q
  exact Heap.lt_size h2
/-- the end: StopIteration raised, whether an exception is handled or not -/
theorem rn_end_H {it : Addr} {h1 : Heap} {Q : Option Value → Shared → Prop} (hok : HOk A.handled s.heap) (hne : ∀ e, A.handled = some (.ref e) → e ≠ it) (hk1 : Heap.ExtBut it s.heap h1)
    (hQ : ∀ h', Heap.ExtBut it s.heap h' → Q none { s with heap := h' }) {R : PySem.Fin → Shared → Prop} {va : Array Value} (hz : 2 < va.size := by decide) :
    wpAny (model prog w) A.in1 (raiseNew (.ref h1.objs.size) : Sem PySem.Fin) R (fun e s' => wpAny (model prog w) A (do if ← isInstance e (.type "StopIteration") then pure none else throw e) Q E s') { s with heap := h1.push { cls := .type "StopIteration", data := .fields va } } := by
  have hok1 : HOk A.in1.handled h1 := HOk.but (hdl := A.handled) hok hne hk1
  refine rn_H (A := A.in1) (hok1.keeps fun b o eb => Heap.get?_push_of_some _ eb) (fun e he => Nat.ne_of_lt (hok1.lt he)) (Heap.get?_push_size _ rfl) rfl hz ?_
  rintro h' k' ⟨o', ho', hc'⟩
  refine wpAny_bind (wpAny_isInstance (T := "StopIteration") (b := true) ⟨o', ho', hc'⟩ isSubtype_stop ?_)
  exact wpAny_pure (hQ h' (fun b o hb eb => k' b o (Nat.ne_of_lt (Heap.lt_size (hk1 b o hb eb))) (Heap.get?_push_of_some _ (hk1 b o hb eb))))
theorem list_end_H {it l : Addr} {i : Nat} {items} {Q : Option Value → Shared → Prop} (hok : HOk A.handled s.heap)
    (hit : s.heap.IsListIter it l i) (hl : s.heap.IsList l items) (hx : items[i]? = none) (hne : ∀ e, A.handled = some (.ref e) → e ≠ it)
    (hQ : ∀ h', Heap.ExtBut it s.heap h' → Q none { s with heap := h' }) : wpAny (model prog w) A (pyNext (.ref it)) Q E s := by
  obtain ⟨o, ho, hc, hd⟩ := id hit
  obtain ⟨ol, hol, _, nl, hdl⟩ := hl
  unfold pyNext
  refine wpAny_bind (wpAny_attempt (wpAny_callSpecial?_slot (name := Str.ofString "__next__") hit.typeIs slot_listiter_next
    (wpAny_call_entry slot_listiter_next hit.typeIs entry_listiter_next ?_ (args_listiter_next _))))
  show wpAny _ _ (field (.ref it) 0 >>= _) _ _ s
  refine wpAny_bind (wpAny_field ho hd (x := .ref l) rfl ?_)
  show wpAny _ _ (if (Value.ref l == Value.none) = true then _ else _) _ _ s
  rw [if_neg (show ¬ ((Value.ref l == Value.none) = true) from Bool.false_ne_true)]
  show wpAny _ _ (field (.ref it) 1 >>= _) _ _ s
  refine wpAny_bind (wpAny_field ho hd (x := .int i 0) rfl ?_)
  show wpAny _ _ (seqItems? (.ref l) >>= _) _ _ s
  refine wpAny_bind (wpAny_seqItems hol hdl ?_)
  simp only [Int.toNat_natCast, hx]
  refine wpAny_bind (wpAny_rule (wpAny_bind (wpAny_setField ho hd (by simp) ?_)))
  show wpAny _ _ (newExc (.type "StopIteration") [] >>= _) _ _ _
  refine wpAny_bind ?_
  simp only [newExc, newTuple]
  refine wpAny_bind (wpAny_newObj_type ?_ (by size_fits))
  refine wpAny_bind (m := firstArgMember _ _) (wpAny_of_eq (a := Value.none) (by first | rfl | (simp only [firstArgMember]; rfl)) ?_)
  refine wpAny_newObj_type ?_ (by size_fits)
  have hk1 := ((Heap.SameBut.update s.heap it (Obj.mapFields fun x => x.setIfInBounds 0 Value.none)).extBut.push { cls := Value.type "tuple", data := Data.seq #[] })
  refine rn_end_H hok hne hk1 hQ (hz := Nat.lt_of_lt_of_le (show 2 < 6 by decide) (by rw [Array.size_append]; exact Nat.le_add_right 6 _))
def hAddr : Option Value → List Addr
  | some (.ref e) => [e]
  | _ => []
theorem hAddr_ok {hdl : Option Value} {h h' : Heap} (x : HOk hdl h) (k : ∀ b ∈ hAddr hdl, ∀ o, h.get? b = some o → h'.get? b = some o) : HOk hdl h' := by
  cases hdl with
  | none => trivial
  | some v => obtain ⟨e, oe, ws, rfl, h2, h3, h4⟩ := x; exact ⟨e, oe, ws, rfl, k e (.head _) _ h2, h3, h4⟩
theorem hAddr_of {hdl : Option Value} {b : Addr} (h : b ∈ hAddr hdl) : hdl = some (.ref b) := by
  unfold hAddr at h
  split at h
  · rw [List.mem_singleton.mp h]
  · cases h
theorem HMem.at {hdl : Option Value} {nw : List (Addr × Obj)} {e : Addr} (x : HMem hdl nw) (he : hdl = some (.ref e)) : ∃ oe, (e, oe) ∈ nw := by
  subst he
  obtain ⟨e', oe, ws, q, h2, _⟩ := x
  cases q
  exact ⟨oe, h2⟩
theorem walks_listH {prog : Program} {w : World} {A : Around} (I ax : Addr) (hne : ax ≠ I) (hxI : ∀ e, A.handled = some (.ref e) → e ≠ I) (items : Array Value) :
    Walks prog w A I (I :: ax :: hAddr A.handled) [I] items.size (fun i v => items[i]? = some v) (fun i h => (h.IsListIter I ax i ∧ h.IsList ax items) ∧ HOk A.handled h) where
  sub := fun b hb => by rw [List.mem_singleton.mp hb]; exact .head _
  frame := fun _ _ _ st hk => ⟨⟨st.1.1.at fun o e => hk I (.head _) o e, st.1.2.at fun o e => hk ax (.tail _ (.head _)) o e⟩, hAddr_ok st.2 fun b hb o e => hk b (.tail _ (.tail _ hb)) o e⟩
  item := fun i s Q E hi st hQ => by
    refine wpAny_pyNext_list_item st.1.1 st.1.2 (x := items[i]) (by simp [hi]) fun h' hit' hs' => ?_
    exact hQ _ h' s.toks (by simp [hi]) ⟨⟨hit', st.1.2.extBut hs'.extBut hne⟩, st.2.but hxI hs'.extBut⟩ fun b o hb e => hs'.extBut b o (fun h => hb (by simp [h])) e
  done := fun s Q E st hQ => list_end_H st.2 st.1.1 st.1.2 (by simp) hxI fun h' he' => hQ h' s.toks fun b o hb e => he' b o (fun h => hb (by simp [h])) e
  self := fun _ _ _ _ st hQ => wpAny_pyIter_listiter st.1.1 hQ
end
theorem layj_21 : True := by
  k_with "my:up" => (first | (first | assumption | (refine List.mem_cons_of_mem _ ?_; walk_at "my:up")) | fail)
  k_with "my:hm" => (first | (first | (rename HMem _ _ => hM9; k_dflt (first | exact hM9 | (refine HMem.mono hM9 ?_; intro p9 hp9; walk_at "my:up"))) | (k_dflt (exact trivial))) | fail)
  trivial
/-! ## a bytearray cut and walked -/
section
open Builtin
variable {prog : Program} {A : Around}
theorem ba_slice_meets {S a : Addr} {b : Array UInt8} {n : Nat} {l u : Value} {lo hi : Option Int} (hl : IsPart l lo) (hu : IsPart u hi) :
    Meets (Builtin.«bytearray.__getitem__» ⟨[.ref S, .ref a], []⟩) (fun _ R s => s.heap.IsSliceOf a l u .none ∧ s.heap.get? S = some (baObj b n) ∧ b.size ≤ sizeLine ∧ R (.ok (.ret (.ref s.heap.objs.size))) { s with heap := s.heap.push (baObj (KBy.picked b lo hi) 0) }) := by
  refine .of_wp fun prog w A R s hS => ?_
  obtain ⟨⟨o, ho, hc, hd⟩, hb, hz, h⟩ := hS
  have hT : s.TypeIs (.ref a) "slice" := ⟨o, ho, hc⟩
  show wpAny _ _ (Bytes.subscript? (.ref a) >>= fun r => _) _ _ s
  refine wpAny_bind ?_
  unfold Bytes.subscript?
  refine wpAny_bind (wpAny_specialOf hT slice_no_index (wpAny_pure ?_))
  refine wpAny_bind (wpAny_typeOf hT ?_)
  show wpAny _ _ (Bytes.sliceParts (.ref a) >>= fun r => _) _ _ s
  refine wpAny_bind ?_
  unfold Bytes.sliceParts
  refine wpAny_bind (wpAny_field (x := .none) ho hd rfl ?_)
  kby_none
  refine wpAny_ite (KBy.ite_no (show ¬ ((Value.none == rawInt 0) = true) from Bool.false_ne_true) ?_)
  refine wpAny_bind (wpAny_field (x := l) ho hd rfl ?_)
  have go : wpAny (model prog w) A.in1 (sliceIndices (rawPart lo) (rawPart hi) (rawPart none) b.size) (fun r s' => r = sliceBounds lo hi none b.size ∧ s' = s) (fun _ _ => False) s :=
    wpAny_of_eq (sliceIndices_raw lo hi none b.size (fun e => nomatch e)) ⟨rfl, rfl⟩
  have hp : (KBy.picked b lo hi).size ≤ sizeLine := Nat.le_trans (KBc.size_picked_le b _ _) hz
  cases hl <;> cases hu <;> (first
    | (kby_none; (refine wpAny_bind (wpAny_field (x := .none) ho hd rfl ?_)); kby_none)
    | (kby_none; (refine wpAny_bind (wpAny_field (x := .int _ _) ho hd rfl ?_)); kby_int)
    | (kby_int; (refine wpAny_bind (wpAny_field (x := .none) ho hd rfl ?_)); kby_none)
    | (kby_int; (refine wpAny_bind (wpAny_field (x := .int _ _) ho hd rfl ?_)); kby_int)) <;> refine wpAny_pure ?_
  all_goals
    refine wpAny_bind (ba_payload hb ?_)
    refine wpAny_bind (wpAny_mono go (fun r s' hr => ?_) fun _ _ e => e.elim)
    obtain ⟨hr1, hr2⟩ := hr
    subst hr1 hr2
    exact wpAny_bind (wpAny_newObj_type (wpAny_pure ⟨_, rfl, h⟩) hp)
theorem ba_slice_K {value slice : PySem.Expr} {S : Addr} {b : Array UInt8} {n : Nat} {l u : Value} {lo hi : Option Int} {Q : Value → Shared → Prop} (hF : Fr h₀ L s.heap m) (hN : News h₀ L s.heap news) (hm : (S, baObj b n) ∈ news) (hz : b.size ≤ sizeLine) (hl : IsPart l lo) (hu : IsPart u hi)
    (h : ∀ x h' k, Fr h₀ L h' m → News h₀ L h' ((x, baObj (KBy.picked b lo hi) 0) :: news) → (∀ p ∈ news, p.1 < x) → Q (.ref x) { s with heap := h', toks := k })
    (hs : subscripted slice false (.ref S) (.ref s.heap.objs.size) = operate [.ref s.heap.objs.size, .ref S] (getItem (.ref S) (.ref s.heap.objs.size)) := by with_unfolding_all rfl)
    (ht : ∀ r, letTemporaryGo value (.ref S) r = pure () := by intro _; with_unfolding_all rfl) :
    wpAny (model prog w) A (subscriptTail value slice (.ref S) (.ref s.heap.objs.size)) Q E { s with heap := s.heap.push { cls := .type "slice", data := .fields #[l, u, .none] } } :=
  have hb := (hN _ hm).1
  have hb' : (s.heap.push { cls := .type "slice", data := .fields #[l, u, .none] }).get? S = some (baObj b n) := Heap.get?_push_of_some _ hb
  have N1 := News.pushKeep hN { cls := .type "slice", data := .fields #[l, u, .none] }
  tail_of_ItemOn ⟨"bytearray", _, slot_ba_get.lookup, ba_type hb', getItem_meets (ba_type hb') (by decide) slot_ba_get entry_ba_get (args_ba_get _ _) (ba_slice_meets (n := n) hl hu)
    ⟨Heap.IsSliceOf.new _ _ _ _, hb', hz, h _ _ _ ((hF.push _).push _) (News.push (hF.push _) N1 _) (fun p hp => by rw [Heap.size_push]; exact Nat.lt_succ_of_lt (Heap.lt_size (hN p hp).1))⟩⟩ hs ht
end

/-! ## the iterator of a bytearray -/
theorem bi_end : True := trivial
def IsBaIter (h : Heap) (a S : Addr) (i : Nat) : Prop := ∃ o, h.get? a = some o ∧ o.cls = .type "bytearray_iterator" ∧ o.data = .fields #[.ref S, .int i 0]
theorem bi_slot_next : Slot "bytearray_iterator" "__next__" "bytearray_iterator.__next__" :=
  .of (owner := "bytearray_iterator") (n := "__next__") (by rw [typeLookup_type, builtinLookup_eq_fast]; kernel_rfl) (by decide +kernel) (by decide +kernel) (by decide +kernel)
    (by first | exact .inl (by decide +kernel) | exact .inr (by decide +kernel)) (by rw [isSubtype_type]; kernel_rfl)
theorem bi_slot_self : Slot "bytearray_iterator" "__iter__" "bytearray_iterator.__iter__" :=
  .of (owner := "bytearray_iterator") (n := "__iter__") (by rw [typeLookup_type, builtinLookup_eq_fast]; kernel_rfl) (by decide +kernel) (by decide +kernel) (by decide +kernel)
    (by first | exact .inl (by decide +kernel) | exact .inr (by decide +kernel)) (by rw [isSubtype_type]; kernel_rfl)
theorem bi_entry_next : entryFor table "bytearray_iterator.__next__" = some Builtin.«bytearray_iterator.__next__» := entryFor_of_tree (by kernel_rfl)
theorem bi_entry_self : entryFor table "bytearray_iterator.__iter__" = some Builtin.«dict_keyiterator.__iter__» := entryFor_alias (id' := "dict_keyiterator.__iter__") (by kernel_rfl) rfl (by decide +kernel) (by kernel_rfl)
theorem bi_args_next (a : Value) : argsOk "bytearray_iterator.__next__" ⟨[a], []⟩ := by unfold argsOk; kernel_rfl
theorem bi_args_self (a : Value) : argsOk "bytearray_iterator.__iter__" ⟨[a], []⟩ := by unfold argsOk; kernel_rfl
theorem ba_slot_iter : Slot "bytearray" "__iter__" "bytearray.__iter__" :=
  .of (owner := "bytearray") (n := "__iter__") (by rw [typeLookup_type, builtinLookup_eq_fast]; kernel_rfl) (by decide +kernel) (by decide +kernel) (by decide +kernel)
    (by first | exact .inl (by decide +kernel) | exact .inr (by decide +kernel)) (by rw [isSubtype_type]; kernel_rfl)
theorem ba_entry_iter : entryFor table "bytearray.__iter__" = some Builtin.«bytearray.__iter__» := entryFor_of_tree (by kernel_rfl)
theorem ba_args_iter (a : Value) : argsOk "bytearray.__iter__" ⟨[a], []⟩ := by
  unfold argsOk; rw [signature?_of (id := "bytearray.__iter__") (n := ['_', '_', 'r', 'e', 't', 'i', '_', '_']) (o := ['y', 'a', 'r', 'r', 'a', 'e', 't', 'y', 'b']) (by kernel_rfl) owner_ba]; kernel_rfl
theorem bi_typeIs {s : Shared} {a S : Addr} {i : Nat} (y : IsBaIter s.heap a S i) : s.TypeIs (.ref a) "bytearray_iterator" :=
  let ⟨o, ho, hc, _⟩ := y; ⟨o, ho, hc⟩
section
variable {prog : Program} {A : Around} {S : Addr} {b : Array UInt8} {n : Nat}
theorem ba_pyIter {Q : Value → Shared → Prop} (hb : s.heap.get? S = some (baObj b n)) (hQ : Q (.ref s.heap.objs.size) { s with heap := s.heap.push { cls := .type "bytearray_iterator", data := .fields #[.ref S, .int 0 0] } }) : wpAny (model prog w) A (pyIter (.ref S)) Q E s := by
  refine wpAny_pyIter_slot (ba_type hb) ba_slot_iter (wpAny_call_entry ba_slot_iter (ba_type hb) ba_entry_iter ?_ (ba_args_iter _))
  show wpAny _ _ (do ret (← newFields "bytearray_iterator" [.ref S, rawInt 0])) _ _ s
  exact wpAny_bind (wpAny_newObj_type (wpAny_pure ⟨_, rfl, "bytearray_iterator", _, ⟨_, Heap.get?_push_size _ rfl, rfl⟩, bi_slot_next.lookup, hQ⟩))
theorem ba_pyIter_self {it : Addr} {i : Nat} {Q : Value → Shared → Prop} (hit : IsBaIter s.heap it S i) (h : Q (.ref it) s) : wpAny (model prog w) A (pyIter (.ref it)) Q E s := by
  refine wpAny_pyIter_slot (bi_typeIs hit) bi_slot_self (wpAny_call_entry bi_slot_self (bi_typeIs hit) bi_entry_self ?_ (bi_args_self _))
  show wpAny _ _ (ret (.ref it)) _ _ s
  exact wpAny_pure ⟨_, rfl, "bytearray_iterator", _, bi_typeIs hit, bi_slot_next.lookup, h⟩
theorem ba_next_item {it : Addr} {i : Nat} {c : UInt8} {Q : Option Value → Shared → Prop} (hit : IsBaIter s.heap it S i) (hb : s.heap.get? S = some (baObj b n)) (hx : b[i]? = some c)
    (hQ : ∀ h', IsBaIter h' it S (i + 1) → Heap.SameBut it s.heap h' → Q (some (.int (c.toNat : Int) s.toks)) { s with heap := h', toks := s.toks + 1 }) : wpAny (model prog w) A (pyNext (.ref it)) Q E s := by
  obtain ⟨o, ho, hc, hd⟩ := id hit
  unfold pyNext
  refine wpAny_bind (wpAny_attempt (wpAny_callSpecial?_slot (name := PySem.Str.ofString "__next__") (bi_typeIs hit) bi_slot_next
    (wpAny_call_entry bi_slot_next (bi_typeIs hit) bi_entry_next ?_ (bi_args_next _))))
  show wpAny _ _ (field (.ref it) 0 >>= _) _ _ s
  refine wpAny_bind (wpAny_field ho hd (x := .ref S) rfl ?_)
  show wpAny _ _ (load S >>= _) _ _ s
  refine wpAny_bind (wpAny_load hb ?_)
  show wpAny _ _ (field (.ref it) 1 >>= _) _ _ s
  refine wpAny_bind (wpAny_field ho hd (x := .int i 0) rfl ?_)
  simp only [Int.toNat_natCast, hx]
  refine wpAny_bind (wpAny_setField ho hd (by simp) (wpAny_bind (wpAny_mkInt (wpAny_pure ⟨_, rfl, wpAny_pure (hQ _ ?_ (Heap.SameBut.update ..))⟩))))
  exact ⟨_, Heap.get?_update_self _ ho (Obj.isFreed_of_fields (Obj.data_mapFields hd _)), (Obj.cls_mapFields ..).trans hc, by
    rw [Obj.data_mapFields hd]; simp [rawInt]⟩
theorem ba_next_end {it : Addr} {i : Nat} {Q : Option Value → Shared → Prop} (hok : HOk A.handled s.heap) (hne : ∀ e, A.handled = some (.ref e) → e ≠ it) (hit : IsBaIter s.heap it S i) (hb : s.heap.get? S = some (baObj b n)) (hx : b[i]? = none)
    (hQ : ∀ h', Heap.ExtBut it s.heap h' → Q none { s with heap := h' }) : wpAny (model prog w) A (pyNext (.ref it)) Q E s := by
  obtain ⟨o, ho, hc, hd⟩ := id hit
  unfold pyNext
  refine wpAny_bind (wpAny_attempt (wpAny_callSpecial?_slot (name := PySem.Str.ofString "__next__") (bi_typeIs hit) bi_slot_next
    (wpAny_call_entry bi_slot_next (bi_typeIs hit) bi_entry_next ?_ (bi_args_next _))))
  show wpAny _ _ (field (.ref it) 0 >>= _) _ _ s
  refine wpAny_bind (wpAny_field ho hd (x := .ref S) rfl ?_)
  show wpAny _ _ (load S >>= _) _ _ s
  refine wpAny_bind (wpAny_load hb ?_)
  show wpAny _ _ (field (.ref it) 1 >>= _) _ _ s
  refine wpAny_bind (wpAny_field ho hd (x := .int i 0) rfl ?_)
  simp only [Int.toNat_natCast, hx]
  refine wpAny_bind (wpAny_rule (wpAny_bind (wpAny_setField ho hd (by simp) ?_)))
  refine wpAny_bind (wpAny_letGo ?_)
  show wpAny _ _ (newExc (.type "StopIteration") [] >>= _) _ _ _
  refine wpAny_bind ?_
  simp only [newExc, newTuple]
  refine wpAny_bind (wpAny_newObj_type ?_ (by size_fits))
  refine wpAny_bind (m := firstArgMember _ _) (wpAny_of_eq (a := Value.none) (by first | rfl | (simp only [firstArgMember]; rfl)) ?_)
  refine wpAny_newObj_type ?_ (by size_fits)
  have hk1 := ((Heap.SameBut.update s.heap it (Obj.mapFields fun x => x.setIfInBounds 0 Value.none)).extBut.push { cls := Value.type "tuple", data := Data.seq #[] })
  refine rn_end_H hok hne hk1 hQ (hz := Nat.lt_of_lt_of_le (show 2 < 6 by decide) (by rw [Array.size_append]; exact Nat.le_add_right 6 _))
end
theorem ba_walks {prog : Program} {w : World} {A : Around} (I S : Addr) (hne : I ≠ S) (hxI : ∀ e, A.handled = some (.ref e) → e ≠ I) (b : Array UInt8) (n : Nat) :
    Walks prog w A I (I :: S :: hAddr A.handled) [I] b.size (fun i v => ∃ c u, b[i]? = some c ∧ v = .int (c.toNat : Int) u) (fun i h => (IsBaIter h I S i ∧ h.get? S = some (baObj b n)) ∧ HOk A.handled h) where
  sub := fun _ hb => by rw [List.mem_singleton.mp hb]; exact .head _
  frame := fun _ _ _ st hk => let ⟨⟨⟨o, ho, r⟩, e⟩, x⟩ := st; ⟨⟨⟨o, hk I (.head _) o ho, r⟩, hk S (.tail _ (.head _)) _ e⟩, hAddr_ok x fun b hb o e => hk b (.tail _ (.tail _ hb)) o e⟩
  item := fun i s Q E hi st hQ => by
    refine ba_next_item st.1.1 st.1.2 (c := b[i]) (by simp [hi]) fun h' hit' hs' => ?_
    exact hQ _ h' (s.toks + 1) ⟨_, _, by simp [hi], rfl⟩ ⟨⟨hit', hs'.extBut _ _ (Ne.symm hne) st.1.2⟩, st.2.but hxI hs'.extBut⟩ fun b o hb e => hs'.extBut b o (fun h => hb (by simp [h])) e
  done := fun s Q E st hQ => ba_next_end st.2 hxI st.1.1 st.1.2 (by simp) fun h' he' => hQ h' s.toks fun b o hb e => he' b o (fun h => hb (by simp [h])) e
  self := fun _ _ _ _ st hQ => ba_pyIter_self st.1.1 hQ
section
open LCg
variable {prog : Program} {A : Around} {env : Env}
theorem ListComp_BA {elt iter : Expr} {x : Str} {px : Pos} {scope : Scope} {cl : List (Str × Addr)} {pos : Pos} {Q : Value → Shared → Prop} (F₀ : Fr h₀ L s.heap m)
    (hclos : closureFor scope env = pure cl) (hcell : ∀ y ∈ scope.names, y.2 ≠ .cell) (hkind : scope.kind = .function)
    (hnames : ∀ y ∈ scope.names, y.2 = .local → scope.names.lookup y.1 = some .local) (hx : scope.names.lookup x = some .local)
    (h : wpAny (model prog w) A (eval iter env) (fun xv s₁ => ∃ (S : Addr) (b : Array UInt8) (n : Nat) (news : List (Addr × Obj)), xv = .ref S ∧ HMem A.handled news ∧ Fr h₀ L s₁.heap m ∧ News h₀ L s₁.heap news ∧ (S, baObj b n) ∈ news ∧ b.size ≤ sizeLine ∧
      ∀ s₂ : Shared, (∃ h, s₂ = { s₁ with heap := h }) → CompRest prog w A h₀ L m env elt x scope cl s₂ (fun nw => (S, baObj b n) ∈ nw ∧ HMem A.handled nw) (fun i v => ∃ c t, b[i]? = some c ∧ v = .int (c.toNat : Int) t) (FinE h₀ L m s₂ Q) b.size 0 [] news) E s)
    (hs : ∀ x, foldedSetIterable iter env x = pure x := by intro _; rfl) :
    wpAny (model prog w) A (eval (.ListComp elt [⟨.Name x px, iter, [], 0⟩] scope pos) env) Q E s := by
  rw [eval_ListComp]
  refine wpAny_comprehension_free (use := none) rfl hs hclos hkind hnames (wpAny_mono h (fun xv s₁ h₁ => ?_) fun _ _ e => e)
  refine hideG fun Z hZ => ?_
  obtain ⟨S, b, n, news, rfl, hh, F, N, hm, hsz, R⟩ := h₁
  refine hZ ?_
  clear hZ Z
  have up : ∀ (o : Obj) b o', s₁.heap.get? b = some o' → (s₁.heap.push o).get? b = some o' := fun o b o' e => Heap.get?_push_of_some _ e
  have hS := (N _ hm).1
  have hne : s₁.heap.objs.size ≠ S := Ne.symm (Nat.ne_of_lt (Heap.lt_size hS))
  refine ba_pyIter hS ?_
  have hxI : ∀ e, A.handled = some (.ref e) → e ≠ s₁.heap.objs.size := fun e he => by
    obtain ⟨oe, hoe⟩ := hh.at he
    exact Nat.ne_of_lt (Heap.lt_size (N _ hoe).1)
  refine block_U (S := fun nw => (S, baObj b n) ∈ nw ∧ HMem A.handled nw) (ba_walks s₁.heap.objs.size S hne hxI b n) hsz (fun i h st => by obtain ⟨⟨⟨o, e, _⟩, _⟩, _⟩ := st; exact ⟨o, e⟩) (fun i h h' o nw st e e' _ N' hs' => by obtain ⟨⟨⟨o', q, r⟩, _⟩, _⟩ := st; rw [e] at q; cases q; exact ⟨⟨⟨o, e', r⟩, (N' _ hs'.1).1⟩, hs'.2.ok N'⟩) hcell hkind hx
    ⟨⟨⟨_, Heap.get?_push_size _ rfl, rfl, rfl⟩, up _ _ _ hS⟩, (hh.ok N).keeps (up _)⟩ (fun b hb => ?_)
    (F.keeps (up _)) (N.grown (up _)) (Nat.ne_of_lt F.ns.lt) (next_is_new F) (fun p hp => Nat.ne_of_lt (Heap.lt_size (N p hp).1)) ⟨hm, hh⟩ (R _ ⟨_, rfl⟩) ?_
  · show b < (s₁.heap.push _).objs.size
    rw [Heap.size_push]
    rcases List.mem_cons.mp hb with rfl | hb
    · exact Nat.lt_succ_self _
    rcases List.mem_cons.mp hb with rfl | hb
    · exact Nat.lt_succ_of_lt (Heap.lt_size hS)
    · obtain ⟨oe, hoe⟩ := hh.at (hAddr_of hb)
      exact Nat.lt_succ_of_lt (Heap.lt_size (N _ hoe).1)
  · intro D C h tk m' ys news' F' N' o1 hn hC₀ hD₀ hCL hDL hCD offC fin
    refine ⟨m', hn, fun h'' hs'' => fin D h'' tk (F'.change hs'' hCL hC₀) (fun p hp => ?_) o1⟩
    refine ⟨hs''.extBut _ _ ?_ (N' p hp).1, (N' p hp).2⟩
    rcases List.mem_cons.mp hp with rfl | hp
    · exact Ne.symm hCD
    · exact offC p hp
end
theorem layj_22 : True := by
  k_with "my:part" => (first | (first | exact IsPart.none | exact IsPart.int _ _) | fail)
  k_with "my:baslice" => (first | (k_here; (with_reducible show wpAny _ _ (subscriptTail _ _ (Value.ref _) (Value.ref _)) _ _ _); (refine' ba_slice_K (s := ⟨_, _, _, _, _⟩) (by k_asm) (by k_asm) (by k_mem) (by first | assumption | (simp only [sizeLine] at *; omega)) (by walk_at "my:part") (by walk_at "my:part") ?_ (by with_unfolding_all rfl) (by intro _; with_unfolding_all rfl)); intro x9 h9 k9 F9 N9 lt9; (try k_lt lt9); (try dsimp only); (try k_fold)) | fail)
  k_with "subscriptTail" => (first | (walk_at "my:baslice") | fail)
  k_with "subscriptTail Name Slice ref ref" => (first | (walk_at "my:baslice") | fail)
  trivial
open LCg in
theorem c_decB {b : Array UInt8} {S : Addr} (B : Below A₀ base outer h₀) (F : Fr h₀ L s.heap m) (X : (KK w.params).In h₀) (N : News h₀ L s.heap news) (T : Top VW LO mean mg mb h₀) (hk : cs.kind = .function) (hd : dp + 2 < recursionLimit) (hu : un + 16 < cLine) (hH : HMem hdl news) (hm : (S, baObj b 0) ∈ news) (hx : b.size ≤ 64)
    (ret : ∀ t h' tk', Fr h₀ L h' m → News h₀ L h' news → Q (.str (decT b) t) { s with heap := h', toks := tk' }) :
    wpAny (model PR w) (ktrH hdl dp un gd cn cs L a ccd cl outer) (call (.ref 107) [.ref S]) Q E s := by
  have sm5 : SMk 5 := trivial
  have hz : b.size ≤ sizeLine := by rw [PySem.sizeLine_eq]; exact Nat.le_trans hx (by decide)
  have hj : ((b.toList.map fun c => (⟨#[c.toNat]⟩ : Str)).map (·.length)).sum + (b.toList.map fun c => (⟨#[c.toNat]⟩ : Str)).length * (Str.ofString "").length ≤ 16777216 := by
    rw [sum_ones, show (Str.ofString "").length = 0 from rfl, Nat.mul_zero, Nat.add_zero]
    exact Nat.le_trans hx (by decide)
  walk_at "my:in"
  (k_with "eval ListComp" => (first | ((have q9 : SMk 5 := (by with_reducible assumption)); clear q9; (first | (k_here; k_dflt (refine ListComp_BA (F₀ := by k_asm) (by with_unfolding_all rfl) (by decide) (by rfl) (by decide) (by rfl) ?_)) | fail)) | fail))
  (k_with "Exists" => (first | ((have q9 : SMk 5 := (by with_reducible assumption)); clear q9; (first | (refine ⟨_, _, _, _, rfl, hH, by k_asm, by k_asm, hm, hz, ?_⟩; rintro s₂ ⟨g9, rfl⟩; refine rest_octets (G := fun c v => ∃ t, v = .str ⟨#[c.toNat]⟩ t) ?_ ?_; intro c9 u9 I9 oI9 C9 oC9 D9 m9 ys9 h9 tk9 E9 hm9; (have cl9 : (c9.toNat : Int) < 256 := by have := c9.toNat_lt; omega)) | fail)) | fail))
  (k_with "call builtin:chr" => (first | ((have q9 : SMk 5 := (by with_reducible assumption)); clear q9; (first | (k_here; refine chr_of_range (Int.natCast_nonneg _) (by omega) ?_) | fail)) | fail))
  (k_with "CompEnd" => (first | ((have q9 : SMk 5 := (by with_reducible assumption)); clear q9; (first | exact compEnd (by k_asm) (by k_asm) (by assumption) ⟨hm, hH⟩ ⟨rfl, _, rfl⟩ | fail)) | fail))
  (k_with "call builtin:str.join" => (first | ((have q9 : SMk 5 := (by with_reducible assumption)); clear q9; (first | (k_here; (rename Rel2 _ _ _ => r9); refine join_list (isList_lst (by k_asm) (by k_mem)) (Rel2.strs r9) hj ?_; intro t9 k9) | fail)) | fail))
  k_steps
  all_goals (exact ret _ _ _ (by k_asm) (by walk_at "my:n"))
theorem layj_23 : True := by
  k_with "my:le64" => (first | (first | with_reducible assumption | omega | assumption | decide) | fail)
  k_with "call ref" => (first | (k_here; (with_reducible show wpAny _ _ (call (Value.ref 107) [Value.ref _] _) _ _ _); k_dflt (refine' c_decB (by k_asm) (by k_asm) (by k_asm) (by k_asm) (by k_asm) (by first | exact rfl | assumption) (by walk_at "my:room") (by walk_at "my:room") (by walk_at "my:hm") (by k_mem) (by walk_at "my:le64") ?_; k_whole); intro t9 h9 tk9 F9 N9; (try dsimp only); (try k_fold)) | fail)
  trivial
/-- a fact laid aside -/
structure Hd (p : Prop) : Prop where
  out : p
theorem toNat_sub1 (n : Nat) : ((n : Int) - 1).toNat = n - 1 := Int.toNat_sub n 1
theorem toNat_sub0 (n : Nat) : ((n : Int) - 0).toNat = n := Int.toNat_sub n 0
theorem le_up {a b c i : Nat} (h : b ≤ a + i) (h' : c ≤ b + 1) : c ≤ a + (i + 1) := Nat.le_trans h' (Nat.succ_le_succ h)
theorem le_in {a b i p q r : Nat} (h : b ≤ a + i) (ha : a ≤ p) (hi : i ≤ q) (hr : p + q ≤ r) : b ≤ r := Nat.le_trans h (Nat.le_trans (Nat.add_le_add ha hi) hr)
/-! ## plain laws of texts: signs as lists of numbers -/
abbrev T (x : Str) : List Nat := x.cps.toList
theorem T_inj {x y : Str} (h : T x = T y) : x = y := Str.ext' (Array.toList_inj.mp h)
theorem T_len (x : Str) : (T x).length = x.length := Array.length_toList
theorem T_add (x y : Str) : T (x ++ y) = T x ++ T y := by
  show (x.cps ++ y.cps).toList = _
  exact Array.toList_append
theorem T_join1 (sep : Str) (a : Str) : T (Txt.join sep [a]) = T a := by
  show T (Builtin.Str.glued sep [a]) = _
  rw [StrLaws.glued_eq_join]; rfl
theorem T_join2 (sep a b : Str) : T (Txt.join sep [a, b]) = T a ++ (T sep ++ T b) := by
  show T (Builtin.Str.glued sep [a, b]) = _
  rw [StrLaws.glued_eq_join]
  show T (a ++ sep ++ b) = _
  rw [T_add, T_add, List.append_assoc]
theorem T_joinE : ∀ l : List Str, T (Txt.join (Str.ofString "") l) = (l.map T).flatten := by
  intro l
  show T (Builtin.Str.glued (Str.ofString "") l) = _
  rw [StrLaws.glued_eq_join]
  induction l with
  | nil => rfl
  | cons a r ih =>
    cases r with
    | nil => show T a = (_ ++ _); simp
    | cons b r =>
      show T (a ++ Str.ofString "" ++ Str.join (Str.ofString "") (b :: r)) = _
      rw [T_add, T_add, ih]
      show (T a ++ []) ++ _ = _
      rw [List.append_nil]; rfl
theorem T_decT (b : Array UInt8) : T (decT b) = b.toList.map (·.toNat) := by
  unfold decT
  rw [T_joinE, List.map_map]
  induction b.toList with
  | nil => rfl
  | cons c r ih => rw [List.map_cons, List.flatten_cons, ih]; rfl
theorem decT_len (b : Array UInt8) : (decT b).length = b.size := by
  rw [← T_len, T_decT, List.length_map, Array.length_toList]
noncomputable abbrev e8Dict0 (P : Params) (v1 v2 v3 v4 : Tok) : Obj := dictOf [⟨PyData.keyHash P (Str.ofString "name"), .str (Str.ofString "name") v1, .none⟩, ⟨PyData.keyHash P (Str.ofString "encoding"), .str (Str.ofString "encoding") v2, .str (Str.ofString "latin-1") v4⟩, ⟨PyData.keyHash P (Str.ofString "initialized"), .str (Str.ofString "initialized") v3, .bool false⟩] 3
noncomputable abbrev e8Dict (P : Params) (v1 v2 v3 v4 : Tok) (ba : Addr) : Obj := dictOf [⟨PyData.keyHash P (Str.ofString "name"), .str (Str.ofString "name") v1, .ref ba⟩, ⟨PyData.keyHash P (Str.ofString "encoding"), .str (Str.ofString "encoding") v2, .str (Str.ofString "latin-1") v4⟩, ⟨PyData.keyHash P (Str.ofString "initialized"), .str (Str.ofString "initialized") v3, .bool true⟩] 3
theorem c_e8 (B : Below A₀ base outer h₀) (F : Fr h₀ L s.heap m) (X : (KK w.params).In h₀) (N : News h₀ L s.heap news) (T : Top VW LO mean mg mb h₀) (hk : cs.kind = .function) (hd : dp + 4 < recursionLimit) (hu : un + 32 < cLine)
    (ret : ∀ x dx v1 v2 v3 v4 h' tk', Fr h₀ L h' m → News h₀ L h' ((x, instObj 243 dx) :: (dx, e8Dict0 w.params v1 v2 v3 v4) :: news) →
      (∀ p ∈ news, p.1 < dx) → dx < x → Q (.ref x) { s with heap := h', toks := tk' }) :
    wpAny (model PR w) (ktrTop dp un gd cn cs L a ccd cl outer) (call (.ref 243) []) Q E s := by
  k_steps
  all_goals (exact ret _ _ _ _ _ _ _ _ (by k_asm) (by walk_at "my:n") (by walk_at "my:lt") (by assumption))
noncomputable def baseT (b : Array UInt8) : Str := Txt.rstrip (decT (KBy.picked b none (some 8)))
noncomputable def extT (b : Array UInt8) : Str := Txt.rstrip (decT (KBy.picked b (some 8) (some 11)))
/-- a name's octets told -/
noncomputable def nameT (b : Array UInt8) : Str := Txt.join (if 0 < (extT b).length then Str.ofString "." else Str.ofString "") [baseT b, extT b]
theorem m_text {R : Result → Shared → Prop} {e d S : Addr} {b : Array UInt8} {v1 v2 v3 v4 : Tok} (B : Below A₀ base outer h₀) (F : Fr h₀ L s.heap m) (X : (KK w.params).In h₀) (N : News h₀ L s.heap news) (T : Top VW LO mean mg mb h₀) (hk : cs.kind = .function) (hd : dp + 8 < recursionLimit) (hu : un + 64 < cLine) (hH : HMem hdl news) (he : (e, instObj 243 d) ∈ news) (hdx : (d, e8Dict w.params v1 v2 v3 v4 S) ∈ news) (hS : (S, baObj b 0) ∈ news) (hb : b.size = 11) (h5 : ∃ c, b[0]? = some c ∧ c ≠ 5)
    (ret : ∀ t h' tk', Fr h₀ L h' m → News h₀ L h' news → R (.ok (.ret (.str (nameT b) t))) { s with heap := h', toks := tk' }) :
    codeAny (model PR w) (ktrH hdl dp un gd cn cs L a ccd cl outer) (.call (.ref 163) ⟨[.ref e], []⟩) R s := by
  have sm6 : SMk 6 := trivial
  obtain ⟨c, hc, h5⟩ := h5
  have hz : b.size ≤ sizeLine := by rw [hb]; decide
  have hz1 := Nat.le_trans (KBc.size_picked_le b none (some 8)) (Nat.le_of_eq hb)
  have hz2 := Nat.le_trans (KBc.size_picked_le b (some 8) (some 11)) (Nat.le_of_eq hb)
  have hl1 : (decT (KBy.picked b none (some 8))).length ≤ 11 := by rw [decT_len]; exact hz1
  have hl2 : (decT (KBy.picked b (some 8) (some 11))).length ≤ 11 := by rw [decT_len]; exact hz2
  have hi0 : (seqIndex? 0 b.size).bind (b[·]?) = some c := by rw [hb]; exact hc
  have hne : ¬ ((c.toNat : Int) = 5) := fun q => h5 (UInt8.toNat_inj.mp (by show c.toNat = 5; omega))
  walk_at "my:enter"
  (k_with "subscriptTail" => (first | ((have q9 : SMk 6 := (by with_reducible assumption)); clear q9; (first | (k_here; (with_reducible show wpAny _ _ (subscriptTail _ _ (Value.ref _) (Value.int _ _)) _ _ _); k_dflt (refine' ba_item (by exact News.get (by k_asm) (by k_mem)) (by decide) hi0 ?_ (by with_unfolding_all rfl); k_whole)) | fail)) | fail))
  (k_with "setItem ref int" => (first | ((have q9 : SMk 6 := (by with_reducible assumption)); clear q9; (exfalso; omega)) | fail))
  k_steps
  all_goals (refine Eq.mp (congrArg (fun y => R (.ok (.ret (.str y _))) _) ?_) (ret _ _ _ (by k_asm) (by walk_at "my:n")))
  all_goals (unfold nameT baseT extT; first | rw [if_pos (by omega)] | rw [if_neg (by omega)])
theorem layj_25 : True := by
  k_with "call ref" => (first | (k_here; (with_reducible show wpAny _ _ (call (Value.ref 243) _ _) _ _ _); k_dflt (refine' c_e8 (by k_asm) (by k_asm) (by k_asm) (by k_asm) (by k_asm) (by first | exact rfl | assumption) (by walk_at "my:room") (by walk_at "my:room") ?_; k_whole); intro x9 d9 v19 v29 v39 v49 h9 tk9 F9 N9 lt9 l29; (try k_lt lt9); (try k_lt2 l29); (try dsimp only); (try k_fold)) | fail)
  k_with "call ref" => (first | (k_here; (with_reducible show wpAny _ _ (call (Value.ref 163) _ _) _ _ _); k_dflt (refine wpAny_call ?_; refine' m_text (by k_asm) (by k_asm) (by k_asm) (by k_asm) (by k_asm) (by first | exact rfl | assumption) (by walk_at "my:room") (by walk_at "my:room") (by walk_at "my:hm") (by k_mem) (by k_mem) (by k_mem) (by assumption) (by assumption) ?_; k_whole); intro t9 h9 tk9 F9 N9; (try dsimp only); (try k_fold)) | fail)
  trivial
noncomputable abbrev recDict (P : Params) (u1 u2 u3 u4 u5 u6 u7 u8 u9 u10 u11 u12 u13 u14 u15 u16 u17 u18 : Tok) (e8 dl : Addr) (mk : Int) (par : Value) (r1 r2 r3 r4 r5 r6 r7 r8 r9 r10 r11 r12 : Tok) : Obj :=
  dictOf [⟨PyData.keyHash P (Str.ofString "name"), .str (Str.ofString "name") u1, .ref e8⟩, ⟨PyData.keyHash P (Str.ofString "attr"), .str (Str.ofString "attr") u2, .int mk r1⟩, ⟨PyData.keyHash P (Str.ofString "ntres"), .str (Str.ofString "ntres") u3, .int 0 r2⟩, ⟨PyData.keyHash P (Str.ofString "crttimetenth"), .str (Str.ofString "crttimetenth") u4, .int 0 r3⟩, ⟨PyData.keyHash P (Str.ofString "crttime"), .str (Str.ofString "crttime") u5, .int 0 r4⟩, ⟨PyData.keyHash P (Str.ofString "crtdate"), .str (Str.ofString "crtdate") u6, .int 0 r5⟩, ⟨PyData.keyHash P (Str.ofString "lstaccessdate"), .str (Str.ofString "lstaccessdate") u7, .int 0 r6⟩, ⟨PyData.keyHash P (Str.ofString "fstclushi"), .str (Str.ofString "fstclushi") u8, .int 0 r7⟩, ⟨PyData.keyHash P (Str.ofString "wrttime"), .str (Str.ofString "wrttime") u9, .int 0 r8⟩, ⟨PyData.keyHash P (Str.ofString "wrtdate"), .str (Str.ofString "wrtdate") u10, .int 0 r9⟩, ⟨PyData.keyHash P (Str.ofString "fstcluslo"), .str (Str.ofString "fstcluslo") u11, .int 0 r10⟩, ⟨PyData.keyHash P (Str.ofString "filesize"), .str (Str.ofString "filesize") u12, .int 0 r11⟩, ⟨PyData.keyHash P (Str.ofString "_lazy_load"), .str (Str.ofString "_lazy_load") u13, .bool false⟩, ⟨PyData.keyHash P (Str.ofString "_fs"), .str (Str.ofString "_fs") u14, .none⟩, ⟨PyData.keyHash P (Str.ofString "_parent"), .str (Str.ofString "_parent") u15, par⟩, ⟨PyData.keyHash P (Str.ofString "lfn_entry"), .str (Str.ofString "lfn_entry") u16, .none⟩, ⟨PyData.keyHash P (Str.ofString "_dirs"), .str (Str.ofString "_dirs") u17, .ref dl⟩, ⟨PyData.keyHash P (Str.ofString "_encoding"), .str (Str.ofString "_encoding") u18, .str (Str.ofString "latin-1") r12⟩] 18
/-- a record's dict: its name, its own list, its mark, its parent -/
def IsRec (P : Params) (o : Obj) (e8 dl : Addr) (mk : Int) (par : Value) : Prop := ∃ u r : Nat → Tok, o = recDict P (u 1) (u 2) (u 3) (u 4) (u 5) (u 6) (u 7) (u 8) (u 9) (u 10) (u 11) (u 12) (u 13) (u 14) (u 15) (u 16) (u 17) (u 18) e8 dl mk par (r 1) (r 2) (r 3) (r 4) (r 5) (r 6) (r 7) (r 8) (r 9) (r 10) (r 11) (r 12)
theorem IsRec.mk {P : Params} {e8 dl : Addr} {mk : Int} {par : Value} {u1 u2 u3 u4 u5 u6 u7 u8 u9 u10 u11 u12 u13 u14 u15 u16 u17 u18 r1 r2 r3 r4 r5 r6 r7 r8 r9 r10 r11 r12 : Tok} : IsRec P (recDict P u1 u2 u3 u4 u5 u6 u7 u8 u9 u10 u11 u12 u13 u14 u15 u16 u17 u18 e8 dl mk par r1 r2 r3 r4 r5 r6 r7 r8 r9 r10 r11 r12) e8 dl mk par :=
  ⟨fun n => [0, u1, u2, u3, u4, u5, u6, u7, u8, u9, u10, u11, u12, u13, u14, u15, u16, u17, u18].getD n 0, fun n => [0, r1, r2, r3, r4, r5, r6, r7, r8, r9, r10, r11, r12].getD n 0, rfl⟩
theorem IsRec.elim {P : Params} {o : Obj} {e8 dl : Addr} {mk : Int} {par : Value} {Z : Prop} (z : IsRec P o e8 dl mk par) (k : ∀ u1 u2 u3 u4 u5 u6 u7 u8 u9 u10 u11 u12 u13 u14 u15 u16 u17 u18 r1 r2 r3 r4 r5 r6 r7 r8 r9 r10 r11 r12, o = recDict P u1 u2 u3 u4 u5 u6 u7 u8 u9 u10 u11 u12 u13 u14 u15 u16 u17 u18 e8 dl mk par r1 r2 r3 r4 r5 r6 r7 r8 r9 r10 r11 r12 → Z) : Z :=
  let ⟨_, _, e⟩ := z; k _ _ _ _ _ _ _ _ _ _ _ _ _ _ _ _ _ _ _ _ _ _ _ _ _ _ _ _ _ _ e
theorem rec_binds {x e8 : Addr} {mk : Int} {a1 a2 a3 a4 a5 a6 a7 a8 a9 a10 a11 : Tok} (X : (KK w.params).In s.heap) :
    BindsTo s (fnOf (Str.ofString "__init__") (Str.ofString "FATDirectoryEntry.__init__") f16m13P f16m13B f16m13S (.ref 256) .none .none (.str (Str.ofString "pyfatfs.FATDirectoryEntry") 581) none (.ref 262) .none) ⟨[.ref x], [(Str.ofString "DIR_Name", .ref e8), (Str.ofString "DIR_Attr", .int mk a1), (Str.ofString "DIR_NTRes", .int 0 a2), (Str.ofString "DIR_CrtTimeTenth", .int 0 a3), (Str.ofString "DIR_CrtTime", .int 0 a4), (Str.ofString "DIR_CrtDate", .int 0 a5), (Str.ofString "DIR_LstAccessDate", .int 0 a6), (Str.ofString "DIR_FstClusHI", .int 0 a7), (Str.ofString "DIR_WrtTime", .int 0 a8), (Str.ofString "DIR_WrtDate", .int 0 a9), (Str.ofString "DIR_FstClusLO", .int 0 a10), (Str.ofString "DIR_FileSize", .int 0 a11)]⟩
      [(Str.ofString "self", .ref x), (Str.ofString "DIR_Name", .ref e8), (Str.ofString "DIR_Attr", .int mk a1), (Str.ofString "DIR_NTRes", .int 0 a2), (Str.ofString "DIR_CrtTimeTenth", .int 0 a3), (Str.ofString "DIR_CrtTime", .int 0 a4), (Str.ofString "DIR_CrtDate", .int 0 a5), (Str.ofString "DIR_LstAccessDate", .int 0 a6), (Str.ofString "DIR_FstClusHI", .int 0 a7), (Str.ofString "DIR_WrtTime", .int 0 a8), (Str.ofString "DIR_WrtDate", .int 0 a9), (Str.ofString "DIR_FstClusLO", .int 0 a10), (Str.ofString "DIR_FileSize", .int 0 a11), (Str.ofString "encoding", .str (Str.ofString "latin-1") 326), (Str.ofString "fs", .none), (Str.ofString "lazy_load", .bool false), (Str.ofString "lfn_entry", .none)] :=
  fun M A E Q hq => Looks.of_peek X (by kernel_rfl) A Q E s (fun _ _ e => e) hq
theorem try_calm {prog : Program} {A : Around} {env : Env} {body orelse : List Stmt} {e₀ : ExceptHandler} {hs : List ExceptHandler} {pos : Pos} {Q : Flow → Shared → Prop}
    (h : wpAny (model prog w) A (execs body env) (fun f s₁ => match f with | .next => wpAny (model prog w) A (execs orelse env) Q E s₁ | f => Q f s₁) (fun _ _ => False) s) :
    wpAny (model prog w) A (exec (.Try body (e₀ :: hs) orelse [] pos) env) Q E s :=
  wpAny_Try_except (wpAny_mono h (fun _ _ q => q) fun _ _ q => q.elim)
theorem lay_C01j_1 : True := by
  k_with "exec Try" => (first | (k_here; k_dflt (refine try_calm ?_); (try k_fold)) | fail)
  k_with "my:enterR" => (first | (refine' code_defR (by exact rfl) (by exact rfl) (by first | exact rfl | assumption) (by k_asm) (by k_asm) (by k_asm) (by k_asm) (by k_asm) (by k_is) (by k_is) (by walk_at "my:room") (by exact rec_binds (by k_in)) (by exact locs rfl) ?_ (by exact rfl) (by exact rfl) (by exact rfl) (by decide); k_whole; intro g' L' h' FG' F' N' B' X' T'; (try dsimp only); (try k_lift B'); (try k_fold)) | fail)
  k_with "call ref" => (first | (k_here; (with_reducible show wpAny _ _ (call (Value.ref 533) _ _) _ _ _); k_dflt (refine' call_cls (by k_asm) (by k_asm) (by k_asm) (by k_is) (by k_is) (by k_is) ?_; k_whole; intro x' d' h' F' N' l1 l2; (try k_lt l1); (try k_lt2 l2); (try k_sweep); walk_at "my:enterR")) | fail)
  trivial
theorem c_lrec {e8 : Addr} {mk : Int} {t : Tok} (B : Below A₀ base outer h₀) (F : Fr h₀ L s.heap m) (X : (KK w.params).In h₀) (N : News h₀ L s.heap news) (T : Top VW LO mean mg mb h₀) (hk : cs.kind = .function) (hd : dp + 32 < recursionLimit) (hu : un + 220 < cLine)
    (ret : ∀ x dx dl od h' tk', IsRec w.params od e8 dl mk .none → Fr h₀ L h' m → News h₀ L h' ((dl, W.listOf #[] 0) :: (x, instObj 533 dx) :: (dx, od) :: news) →
      (∀ p ∈ news, p.1 < dx) → dx < x → x < dl → Q (.ref x) { s with heap := h', toks := tk' }) :
    wpAny (model PR w) (ktrTop dp un gd cn cs L a ccd cl outer) (call (.ref 652) [.ref e8, .int mk t]) Q E s := by
  walk_at "my:in"
  k_steps
  all_goals (refine ret _ _ _ _ _ _ .mk (by k_asm) (by walk_at "my:n") (by walk_at "my:lt") (by assumption) (by first | assumption | (rename _ < _ ∧ _ < _ ∧ _ => z9; exact z9.1)))
theorem layj_26 : True := by
  k_with "call ref" => (first | (k_here; (with_reducible show wpAny _ _ (call (Value.ref 652) _ _) _ _ _); k_dflt (refine' c_lrec (by k_asm) (by k_asm) (by k_asm) (by k_asm) (by k_asm) (by first | exact rfl | assumption) (by walk_at "my:room") (by walk_at "my:room") ?_; k_whole); intro x9 dx9 dl9 od9 h9 tk9 ir9 F9 N9 lt9 l29 l39; (try k_lt lt9); (try k_lt2 l29); (try k_lt2 l39); (try dsimp only); (try k_fold)) | fail)
  trivial
/-- a name's octets are told as they lie -/
def NameOk (b : Array UInt8) : Prop := b.size = 11 ∧ ∃ c, b[0]? = some c ∧ c ≠ 5
/-- the ledger bears an entry: its octets, its mark -/
def EntIn (P : Params) (news : List (Addr × Obj)) (x : Addr) (b : Array UInt8) (mk : Int) : Prop :=
  ∃ (a : Nat → Addr) (v : Nat → Tok) (od : Obj) (par : Value), IsRec P od (a 3) (a 2) mk par ∧ (x, instObj 533 (a 1)) ∈ news ∧ (a 1, od) ∈ news ∧ (a 3, instObj 243 (a 4)) ∈ news ∧ (a 4, e8Dict P (v 1) (v 2) (v 3) (v 4) (a 5)) ∈ news ∧ (a 5, baObj b 0) ∈ news
theorem EntIn.mk {P : Params} {news : List (Addr × Obj)} {x dx dl e8 d8 S : Addr} {od : Obj} {par : Value} {v1 v2 v3 v4 : Tok} {b : Array UInt8} {mk : Int} (h0 : IsRec P od e8 dl mk par) (h1 : (x, instObj 533 dx) ∈ news) (h2 : (dx, od) ∈ news) (h3 : (e8, instObj 243 d8) ∈ news) (h4 : (d8, e8Dict P v1 v2 v3 v4 S) ∈ news) (h5 : (S, baObj b 0) ∈ news) : EntIn P news x b mk :=
  ⟨fun n => [0, dx, dl, e8, d8, S].getD n 0, fun n => [0, v1, v2, v3, v4].getD n 0, od, par, h0, h1, h2, h3, h4, h5⟩
theorem EntIn.mono {P : Params} {news news' : List (Addr × Obj)} {x : Addr} {b : Array UInt8} {mk : Int} (h : EntIn P news x b mk) (hs : ∀ p ∈ news, p ∈ news') : EntIn P news' x b mk :=
  let ⟨a, v, od, par, h⟩ := h
  ⟨a, v, od, par, h.1, hs _ h.2.1, hs _ h.2.2.1, hs _ h.2.2.2.1, hs _ h.2.2.2.2.1, hs _ h.2.2.2.2.2⟩
theorem EntIn.elim {P : Params} {news : List (Addr × Obj)} {x : Addr} {b : Array UInt8} {mk : Int} {Z : Prop} (z : EntIn P news x b mk)
    (k : ∀ dx dl e8 d8 S v1 v2 v3 v4 par u1 u2 u3 u4 u5 u6 u7 u8 u9 u10 u11 u12 u13 u14 u15 u16 u17 u18 r1 r2 r3 r4 r5 r6 r7 r8 r9 r10 r11 r12, (x, instObj 533 dx) ∈ news → (dx, recDict P u1 u2 u3 u4 u5 u6 u7 u8 u9 u10 u11 u12 u13 u14 u15 u16 u17 u18 e8 dl mk par r1 r2 r3 r4 r5 r6 r7 r8 r9 r10 r11 r12) ∈ news → (e8, instObj 243 d8) ∈ news → (d8, e8Dict P v1 v2 v3 v4 S) ∈ news → (S, baObj b 0) ∈ news → Z) : Z :=
  let ⟨_, _, _, _, h⟩ := z; h.1.elim fun _ _ _ _ _ _ _ _ _ _ _ _ _ _ _ _ _ _ _ _ _ _ _ _ _ _ _ _ _ _ e => k _ _ _ _ _ _ _ _ _ _ _ _ _ _ _ _ _ _ _ _ _ _ _ _ _ _ _ _ _ _ _ _ _ _ _ _ _ _ _ _ h.2.1 (e ▸ h.2.2.1) h.2.2.2.1 h.2.2.2.2.1 h.2.2.2.2.2
theorem m_gsn {R : Result → Shared → Prop} {x : Addr} {b : Array UInt8} {mk : Int} (B : Below A₀ base outer h₀) (F : Fr h₀ L s.heap m) (X : (KK w.params).In h₀) (N : News h₀ L s.heap news) (T : Top VW LO mean mg mb h₀) (hk : cs.kind = .function) (hd : dp + 12 < recursionLimit) (hu : un + 90 < cLine) (hH : HMem hdl news) (hx : EntIn w.params news x b mk) (hb : NameOk b)
    (ret : ∀ t h' tk', Fr h₀ L h' m → News h₀ L h' news → R (.ok (.ret (.str (nameT b) t))) { s with heap := h', toks := tk' }) :
    codeAny (model PR w) (ktrH hdl dp un gd cn cs L a ccd cl outer) (.call (.ref 523) ⟨[.ref x], []⟩) R s := by
  refine hx.elim ?_
  intro dx dl e8 d8 S v1 v2 v3 v4 par u1 u2 u3 u4 u5 u6 u7 u8 u9 u10 u11 u12 u13 u14 u15 u16 u17 u18 r1 r2 r3 r4 r5 r6 r7 r8 r9 r10 r11 r12 h1 h2 h3 h4 h5
  have hb1 := hb.1
  have hb2 := hb.2
  walk_at "my:enter"
  k_steps
  all_goals (exact ret _ _ _ (by k_asm) (by walk_at "my:n"))
theorem layj_27 : True := by
  k_with "my:up" => (first | (first | assumption | (refine List.mem_cons_of_mem _ ?_; walk_at "my:up")) | fail)
  k_with "my:mk" => (first | (first | with_reducible assumption | exact Hd.out (by with_reducible assumption)) | fail)
  k_with "my:ent" => (first | (first | with_reducible assumption | (refine EntIn.mono (by with_reducible assumption) ?_; intro p9 hp9; walk_at "my:up")) | fail)
  k_with "call ref" => (first | (k_here; (with_reducible show wpAny _ _ (call (Value.ref 523) _ _) _ _ _); k_dflt (refine wpAny_call ?_; refine' m_gsn (by k_asm) (by k_asm) (by k_asm) (by k_asm) (by k_asm) (by first | exact rfl | assumption) (by walk_at "my:room") (by walk_at "my:room") (by walk_at "my:hm") (by walk_at "my:ent") (by assumption) ?_; k_whole); intro t9 h9 tk9 F9 N9; (try dsimp only); (try k_fold)) | fail)
  trivial
theorem m_special {R : Result → Shared → Prop} {x : Addr} {b : Array UInt8} {mk : Int} (B : Below A₀ base outer h₀) (F : Fr h₀ L s.heap m) (X : (KK w.params).In h₀) (N : News h₀ L s.heap news) (T : Top VW LO mean mg mb h₀) (hk : cs.kind = .function) (hd : dp + 16 < recursionLimit) (hu : un + 120 < cLine) (hH : HMem hdl news) (hx : EntIn w.params news x b mk) (hb : NameOk b)
    (ret : ∀ h' tk', Fr h₀ L h' m → News h₀ L h' news → R (.ok (.ret (.bool ([Str.ofString ".", Str.ofString ".."].any fun x => x == nameT b)))) { s with heap := h', toks := tk' }) :
    codeAny (model PR w) (ktrH hdl dp un gd cn cs L a ccd cl outer) (.call (.ref 389) ⟨[.ref x], []⟩) R s := by
  refine hx.elim ?_
  intro dx dl e8 d8 S v1 v2 v3 v4 par u1 u2 u3 u4 u5 u6 u7 u8 u9 u10 u11 u12 u13 u14 u15 u16 u17 u18 r1 r2 r3 r4 r5 r6 r7 r8 r9 r10 r11 r12 h1 h2 h3 h4 h5
  walk_at "my:enter"
  k_steps
  all_goals (exact ret _ _ (by k_asm) (by walk_at "my:n"))
theorem layj_28 : True := by
  k_with "call ref" => (first | (k_here; (with_reducible show wpAny _ _ (call (Value.ref 389) _ _) _ _ _); k_dflt (refine wpAny_call ?_; refine' m_special (by k_asm) (by k_asm) (by k_asm) (by k_asm) (by k_asm) (by first | exact rfl | assumption) (by walk_at "my:room") (by walk_at "my:room") (by walk_at "my:hm") (by walk_at "my:ent") (by assumption) ?_; k_whole); intro h9 tk9 F9 N9; (try dsimp only); (try k_fold)) | fail)
  trivial
theorem m_isvol {R : Result → Shared → Prop} {x : Addr} {b : Array UInt8} {mk : Int} (B : Below A₀ base outer h₀) (F : Fr h₀ L s.heap m) (X : (KK w.params).In h₀) (N : News h₀ L s.heap news) (T : Top VW LO mean mg mb h₀) (hk : cs.kind = .function) (hd : dp + 16 < recursionLimit) (hu : un + 120 < cLine) (hx : EntIn w.params news x b mk) (hm : mk = 8 ∨ mk = 16 ∨ mk = 32)
    (ret : ∀ h' tk', Fr h₀ L h' m → News h₀ L h' news → R (.ok (.ret (.bool (mk == 8)))) { s with heap := h', toks := tk' }) :
    codeAny (model PR w) (ktrH hdl dp un gd cn cs L a ccd cl outer) (.call (.ref 417) ⟨[.ref x], []⟩) R s := by
  refine hx.elim ?_
  intro dx dl e8 d8 S v1 v2 v3 v4 par u1 u2 u3 u4 u5 u6 u7 u8 u9 u10 u11 u12 u13 u14 u15 u16 u17 u18 r1 r2 r3 r4 r5 r6 r7 r8 r9 r10 r11 r12 h1 h2 h3 h4 h5
  rcases hm with rfl | rfl | rfl
  all_goals (walk_at "my:enter")
  all_goals (k_steps)
  all_goals (exact ret _ _ (by k_asm) (by walk_at "my:n"))
theorem m_isdir {R : Result → Shared → Prop} {x : Addr} {b : Array UInt8} {mk : Int} (B : Below A₀ base outer h₀) (F : Fr h₀ L s.heap m) (X : (KK w.params).In h₀) (N : News h₀ L s.heap news) (T : Top VW LO mean mg mb h₀) (hk : cs.kind = .function) (hd : dp + 16 < recursionLimit) (hu : un + 120 < cLine) (hx : EntIn w.params news x b mk) (hm : mk = 8 ∨ mk = 16 ∨ mk = 32)
    (ret : ∀ h' tk', Fr h₀ L h' m → News h₀ L h' news → R (.ok (.ret (.bool (mk == 16)))) { s with heap := h', toks := tk' }) :
    codeAny (model PR w) (ktrH hdl dp un gd cn cs L a ccd cl outer) (.call (.ref 431) ⟨[.ref x], []⟩) R s := by
  refine hx.elim ?_
  intro dx dl e8 d8 S v1 v2 v3 v4 par u1 u2 u3 u4 u5 u6 u7 u8 u9 u10 u11 u12 u13 u14 u15 u16 u17 u18 r1 r2 r3 r4 r5 r6 r7 r8 r9 r10 r11 r12 h1 h2 h3 h4 h5
  rcases hm with rfl | rfl | rfl
  all_goals (walk_at "my:enter")
  all_goals (k_steps)
  all_goals (exact ret _ _ (by k_asm) (by walk_at "my:n"))
theorem layj_29 : True := by
  k_with "call ref" => (first | (k_here; (with_reducible show wpAny _ _ (call (Value.ref 417) _ _) _ _ _); k_dflt (refine wpAny_call ?_; refine' m_isvol (by k_asm) (by k_asm) (by k_asm) (by k_asm) (by k_asm) (by first | exact rfl | assumption) (by walk_at "my:room") (by walk_at "my:room") (by walk_at "my:ent") (by walk_at "my:mk") ?_; k_whole); intro h9 tk9 F9 N9; (try dsimp only); (try k_fold)) | fail)
  k_with "call ref" => (first | (k_here; (with_reducible show wpAny _ _ (call (Value.ref 431) _ _) _ _ _); k_dflt (refine wpAny_call ?_; refine' m_isdir (by k_asm) (by k_asm) (by k_asm) (by k_asm) (by k_asm) (by first | exact rfl | assumption) (by walk_at "my:room") (by walk_at "my:room") (by walk_at "my:ent") (by walk_at "my:mk") ?_; k_whole); intro h9 tk9 F9 N9; (try dsimp only); (try k_fold)) | fail)
  trivial
/-! ## an exception class of the text with an __init__ of its own -/
section
variable {prog : Program} {M : Model} {A : Around} {R : Result → Shared → Prop} {h : Heap} {g : Array GenState} {d : Drawn} {t : Nat} {os : OsState}
variable {nm q : Str} {C Nn : Addr} {bs bm : List Value} {hdct : Bool} {sn : List Str} {sub : List Value} {ab : Bool} {col : Option Bool} {dd : Option Addr} {k0 k1 k2 k3 k5 : Option Value} {Bb newId initId : String}
theorem x_check_new (F : ExcBaseFacts Bb newId initId bm) {rest : List Value} {kw : List (Str × Value)} {Q : Unit → Shared → Prop} (hC : h.get? C = some (excClassObj nm q C Nn bs bm hdct sn sub ab col dd k0 k1 k2 k3 k5 newId))
    (hq : Q () ⟨h, g, d, t, os⟩) : wpAny M A (checkBuiltinCall newId ⟨.ref C :: rest, kw⟩) Q E ⟨h, g, d, t, os⟩ := by
  have hcont : (Value.ref C :: bm).contains (.type Bb) = true := by rw [List.contains_cons, F.hasB, Bool.or_true]
  have hstar := F.noStar
  simp only [checkBuiltinCall, F.newKind, F.newSplit, F.newRow]
  repeat (first | refine wpAny_loadPart_at hC ?_ | (refine wpAny_isSubtype_exc hC ?_; rw [hcont]) | refine wpAny_staticBase_exc hC ?_ | refine wpAny_madeBy_exc hC ?_ | simp only [bne_self_eq_false, Bool.false_eq_true, if_false] | wp_step)
  exact hq
abbrev excObj (C t0 : Addr) : Obj := { cls := .ref C, data := .fields #[.ref t0, .none, .none, .none, .bool false, .none] }
theorem x_new (F : ExcBaseFacts Bb newId initId bm) {rest : List Value} {kw : List (Str × Value)} (hC : h.get? C = some (excClassObj nm q C Nn bs bm hdct sn sub ab col dd k0 k1 k2 k3 k5 newId))
    (hq : R (.ok (.ret (.ref (h.objs.size + 1)))) ⟨(h.push { cls := .type "tuple", data := .seq rest.toArray }).push (excObj C h.objs.size), g, d, t, os⟩) (hrest : rest.length ≤ sizeLine) :
    codeAny (model prog w) A (.builtin newId ⟨.ref C :: rest, kw⟩) R ⟨h, g, d, t, os⟩ := by
  have hends := F.ends
  have hcB : (Value.ref C :: bm).contains (.type Bb) = true := by rw [List.contains_cons, F.hasB, Bool.or_true]
  have hcA : (Value.ref C :: bm).contains (.type "AttributeError") = false := by rw [List.contains_cons, F.noAttr]; rfl
  have hcN : (Value.ref C :: bm).contains (.type "NameError") = false := by rw [List.contains_cons, F.noName]; rfl
  refine codeAny_builtinAt F.entry ?_
  unfold Builtin.«BaseException.__new__»
  refine _root_.PySem.wpAt_bind ?_
  show _root_.PySem.wpAt _ _ _ (stack >>= _) _ _ _
  refine _root_.PySem.wpAt_bind (_root_.PySem.wpAt_stack fun p below => _root_.PySem.wpAt_of_wpAny ?_)
  wp_walk
  refine _root_.PySem.wpAt_of_wpAny ?_
  rw [F.owner]
  repeat (first | with_reducible refine wpAny_madeHere_exc F.canon hC ?_ | with_reducible refine wpAny_loadPart_at hC ?_ | (with_reducible refine wpAny_isSubtype_exc hC ?_; first | rw [hcB] | rw [hcA] | rw [hcN]) | wp_step)
  show R _ _
  rw [Heap.size_push]
  exact hq
theorem x_make (F : ExcBaseFacts Bb newId initId bm) {rest : List Value} {kw : List (Str × Value)} {fi : Addr} (hC : h.get? C = some (excClassObj nm q C Nn bs bm hdct sn sub ab col dd k0 k1 k2 k3 k5 newId)) (hrest : rest.length ≤ sizeLine) (typ : Looks (model prog w) h (isInstance (.ref C) (.type "type")) true) (hself : Looks (model prog w) h (isSubtype (.ref C) (.ref C)) true)
    (hi : Looks (model prog w) h (typeLookup (.ref C) "__init__") (some (.ref fi)))
    (hb : ∀ self, Looks (model prog w) h (bindSpecial (.ref fi) self) (.ref fi, [self]))
    (hq : codeAny (model prog w) (A.under (.builtin "type.__call__" ⟨.ref C :: rest, kw⟩)) (.call (.ref fi) ⟨.ref (h.objs.size + 1) :: rest, kw⟩) (InitBack (h.objs.size + 1) R) ⟨(h.push { cls := .type "tuple", data := .seq rest.toArray }).push (excObj C h.objs.size), g, d, t, os⟩) :
    codeAny (model prog w) A (.call (.ref C) ⟨rest, kw⟩) R ⟨h, g, d, t, os⟩ := by
  have f1 := tc_lookup
  have f2 := tc_bind (.ref C)
  have hT : (⟨h, g, d, t, os⟩ : Shared).TypeIs (.ref C) "type" := ⟨_, hC, rfl⟩
  refine codeAny_of_tree ?_
  show wpAny _ _ (callAny (.ref C) _) _ _ _
  repeat (any_goals (first | assumption | with_reducible refine wpAny_loadPart_at hC ?_ | wp_step))
  refine ⟨rfl, ?_⟩
  refine codeAny_call_builtin_at (Code.quiet_builtin _ (by decide +kernel)) entry_typeCall (check_slot tc_kind tc_split typ (tc_args _ _ _) ?_)
  unfold Builtin.«type.__call__»
  repeat (first | with_reducible refine wpAny_loadPart_at hC ?_ | with_reducible refine wpAny_madeBy_exc hC ?_ | wp_step)
  refine codeAny_call_builtin_code (Code.quiet_builtin _ F.quiet) (x_check_new F hC ?_)
  refine x_new F hC ?_ hrest
  show wpAny _ _ _ _ _ _
  have k : ∀ b o, h.get? b = some o → ((h.push { cls := .type "tuple", data := .seq rest.toArray }).push (excObj C h.objs.size)).get? b = some o := fun b o e => Heap.get?_push_of_some _ (Heap.get?_push_of_some _ e)
  have hC₁ := k _ _ hC
  have hget : ((h.push { cls := .type "tuple", data := .seq rest.toArray }).push (excObj C h.objs.size)).get? (h.objs.size + 1) = some (excObj C h.objs.size) := by heap_get
  have t1 : Looks (model prog w) ((h.push { cls := .type "tuple", data := .seq rest.toArray }).push (excObj C h.objs.size)) (typeOf (.ref (h.objs.size + 1))) (.ref C) := (Looks.ld hget).andThen .now
  have hcC : (Value.ref C :: bm).contains (.ref C) = true := by simp
  have i1 := hi.keeps k
  have b1 := (hb (.ref (h.objs.size + 1))).keeps k
  unfold isInstance callSpecial? specialOf
  have s1 := hself.keeps k
  refine wpAny_bind (wpAny_bind (Looks.at t1 ?_))
  refine Looks.at s1 ?_
  refine wpAny_ite_false (by decide) ?_
  refine wpAny_bind (wpAny_holding (wpAny_bind (wpAny_bind (Looks.at t1 (Looks.at i1 ?_)))))
  refine wpAny_holding (wpAny_bind (Looks.at b1 (wpAny_bind (wpAny_call ?_))))
  refine codeAny_mono hq fun r s' z => ?_
  rcases r with e | (v | _ | _ | _) <;> first | exact z | exact z.elim | skip
  obtain ⟨rfl, z⟩ := z
  exact wpAny_pure (wpAny_pure z)
end
theorem xw_type : typeOf (.builtin "Exception.__init__") = pure (.type "wrapper_descriptor") := by kernel_rfl
theorem xw_slot : Slot "wrapper_descriptor" "__get__" "wrapper_descriptor.__get__" := .of (owner := "wrapper_descriptor") (n := "__get__") (by rw [typeLookup_type, builtinLookup_eq_fast]; kernel_rfl) (by decide +kernel) (by decide +kernel) (by decide +kernel)
  (by first | exact .inl (by decide +kernel) | exact .inr (by decide +kernel)) (by rw [isSubtype_type]; kernel_rfl)
theorem xw_entry : entryFor table "wrapper_descriptor.__get__" = some Builtin.«wrapper_descriptor.__get__» := entryFor_of_tree (by kernel_rfl)
theorem xw_args (a b c : Value) : argsOk "wrapper_descriptor.__get__" ⟨[a, b, c], []⟩ := by unfold argsOk; kernel_rfl
theorem xw_super {P : Params} : ks_superIn (KK P) 41 41 (Str.ofString "__init__") = some (some (.builtin "Exception.__init__")) := by kernel_rfl
section
variable {prog : Program} {M : Model} {A : Around} {R : Result → Shared → Prop} {h : Heap} {g : Array GenState} {d : Drawn} {t : Nat} {os : OsState}
theorem xw_ga {so D x C : Addr} {l₀ l : List Value} {K : Frag} {name : Str} {tk : Tok} {Q : PySem.Fin → Shared → Prop}
    (hso : h.get? so = some { cls := .type "super", dict := none, data := .fields #[.ref D, .ref x, .ref C], slots := #[] }) (hno : Looks (model prog w) h (opaqueClassAbove (.ref C)) none)
    (hC : Looks (model prog w) h (mroOf (.ref C)) l₀) (hl : (l₀.dropWhile (· != .ref D)).drop 1 = l) (X : K.In h)
    (hf : alongIn K name l = some (some (.builtin "Exception.__init__"))) (hx : ∃ ox, h.get? x = some ox ∧ ox.cls = .ref C) (hsub : Looks (model prog w) h (isSubtype (.ref C) (.type "Exception")) true) (hxC : x ≠ C) (hn : (name == ("__class__" : Str)) = false)
    (hq : Q (.done (.ret (.ref h.objs.size))) ⟨h.push { cls := .type "method-wrapper", data := .fields #[.builtin "Exception.__init__", .ref x] }, g, d, t, os⟩) :
    wpAny (model prog w) A (Builtin.«super.__getattribute__» ⟨[.ref so, .str name tk], []⟩) Q E ⟨h, g, d, t, os⟩ := by
  have hlk := xw_slot.lookup
  have hne : (Value.ref x == Value.ref C) = false := by simp [hxC]
  have hTf : (⟨h, g, d, t, os⟩ : Shared).TypeIs (.builtin "Exception.__init__") "wrapper_descriptor" := xw_type
  have hdt : ({ cls := .type "super", dict := none, data := .fields #[.ref D, .ref x, .ref C], slots := #[] } : Obj).data = .fields #[.ref D, .ref x, .ref C] := rfl
  have f0 : (#[.ref D, .ref x, .ref C] : Array Value)[0]? = some (.ref D) := rfl
  have f1 : (#[.ref D, .ref x, .ref C] : Array Value)[1]? = some (.ref x) := rfl
  have f2 : (#[.ref D, .ref x, .ref C] : Array Value)[2]? = some (.ref C) := rfl
  obtain ⟨ox, hox, hoc⟩ := hx
  have hs : (".".intercalate ("Exception.__init__".cutAt '.').dropLast) = "Exception" := by decide +kernel
  unfold Builtin.«super.__getattribute__»
  repeat (first
    | (with_reducible refine wpAny_field hso hdt f0 ?_) | (with_reducible refine wpAny_field hso hdt f1 ?_) | (with_reducible refine wpAny_field hso hdt f2 ?_)
    | (with_reducible refine ks_wpAny_notOpaque hno ?_)
    | (with_reducible refine Looks.at hC ?_; rw [hl])
    | (refine ks_forIn_along X (fun _ _ => rfl) rfl ?_ hf)
    | (with_reducible refine wpAny_typeOf hTf ?_)
    | (with_reducible refine wpAny_call_entry xw_slot hTf xw_entry ?_ (xw_args _ _ _))
    | (with_reducible refine ⟨_, rfl, ?_⟩)
    | (simp only [hn, hne, Bool.or_false, Bool.false_eq_true, if_false])
    | (with_reducible refine wpAny_loadPart_at hox ?_; rw [hoc])
    | rw [hs]
    | (with_reducible refine Looks.at hsub ?_)
    | wp_step
    | dsimp only)
  all_goals exact hq
abbrev mwObj (x : Addr) : Obj := { cls := .type "method-wrapper", data := .fields #[.builtin "Exception.__init__", .ref x] }
theorem xw_get {so D x C : Addr} {l₀ l : List Value} {K : Frag} {name : Str} {pl : Sem Bool} {Q : Value × List Value → Shared → Prop}
    (hso : h.get? so = some { cls := .type "super", dict := none, data := .fields #[.ref D, .ref x, .ref C], slots := #[] }) (hno : Looks (model prog w) h (opaqueClassAbove (.ref C)) none)
    (hC : Looks (model prog w) h (mroOf (.ref C)) l₀) (hl : (l₀.dropWhile (· != .ref D)).drop 1 = l) (X : K.In h)
    (hf : alongIn K name l = some (some (.builtin "Exception.__init__"))) (hx : ∃ ox, h.get? x = some ox ∧ ox.cls = .ref C) (hsub : Looks (model prog w) h (isSubtype (.ref C) (.type "Exception")) true) (hxC : x ≠ C) (hn : (name == ("__class__" : Str)) = false)
    (hq : Q (.ref h.objs.size, []) ⟨h.push (mwObj x), g, d, t + 1, os⟩) :
    wpAny (model prog w) A (getMethod (.ref so) name pl) Q E ⟨h, g, d, t, os⟩ := by
  have hlk := F.ks_slot_super_ga.lookup
  have hcan := F.ks_canon_super_ga
  have hT : ∀ t', (⟨h, g, d, t', os⟩ : Shared).TypeIs (.ref so) "super" := fun _ => ⟨_, hso, rfl⟩
  unfold getMethod
  refine wpAny_bind (wpAny_specialOf (hT _) hlk ?_)
  show wpAny _ _ (if (Manifest.canonical "super.__getattribute__" != "object.__getattribute__") = true then _ else _) _ _ _
  rw [if_pos hcan]
  unfold getAttr getAttrBy
  refine wpAny_bind (wpAny_bind (wpAny_mkText (wpAny_holding (wpAny_bind (wpAny_typeOf (hT _) (wpAny_bind (wpAny_of_eq hlk ?_)))))))
  show wpAny _ _ (getAttrByItsOwn (.ref so) (.str name t) (.type "super") (.builtin "super.__getattribute__") true false) _ _ _
  unfold getAttrByItsOwn hookBefore callGetattribute boundAndCalled
  refine wpAny_bind (wpAny_of_eq (show (if onTheHeap (.type "super") then typeLookup (.type "super") "__getattr__" else pure none) = pure none from rfl) ?_)
  refine wpAny_bind (wpAny_attempt (wpAny_holding ?_))
  show wpAny _ _ (bindSpecial (.builtin "super.__getattribute__") (.ref so) >>= _) _ _ _
  refine wpAny_bind (wpAny_of_eq (F.ks_slot_super_ga.bind _) ?_)
  refine wpAny_mono (Q := fun v s' => v = .ref h.objs.size ∧ s' = ⟨h.push (mwObj x), g, d, t + 1, os⟩) (E := fun _ _ => False)
    (wpAny_call_entry F.ks_slot_super_ga (hT _) F.ks_entry_super_ga (xw_ga hso hno hC hl X hf hx hsub hxC hn ⟨_, rfl, rfl, rfl⟩) (F.ks_gaArgs_super _ _)) (fun v s' hv => ?_) fun _ _ z => z.elim
  obtain ⟨rfl, rfl⟩ := hv
  exact wpAny_pure (wpAny_pure hq)
section
variable {nm q : Str} {C Nn : Addr} {bs bm : List Value} {hdct : Bool} {sn : List Str} {sub : List Value} {ab : Bool} {col : Option Bool} {dd : Option Addr} {k0 k1 k2 k3 k5 : Option Value} {Bb newId initId : String}
theorem xw_bound {M : Model} {x t0 : Addr} {v : Value} {Q : Unit → Shared → Prop} (hC : h.get? C = some (excClassObj nm q C Nn bs bm hdct sn sub ab col dd k0 k1 k2 k3 k5 newId)) (hx : h.get? x = some (excObj C t0)) (hq : Q () ⟨h, g, d, t, os⟩) : wpAny M A (checkBoundCall "Exception.__init__" ⟨[.ref x, v], []⟩) Q E ⟨h, g, d, t, os⟩ := by
  have F0 := PySem.F.excBase_Exception
  have hshort := F0.noStar
  simp only [checkBoundCall, F0.initKind, F0.initRow]
  repeat (first | with_reducible refine wpAny_loadPart_at hx ?_ | with_reducible refine wpAny_loadPart_at hC ?_ | wp_step)
  exact hq
theorem xw_code {qa x t0 : Addr} {v : Value} {R : Result → Shared → Prop} (hC : h.get? C = some (excClassObj nm q C Nn bs bm hdct sn sub ab col dd k0 k1 k2 k3 k5 newId)) (hq : h.get? qa = some (mwObj x)) (hx : h.get? x = some (excObj C t0))
    (ret : R (.ok (.ret .none)) ⟨(h.push { cls := .type "tuple", data := .seq #[v] }).update x (Obj.mapFields (·.setIfInBounds 0 (.ref h.objs.size))), g, d, t, os⟩) :
    codeAny (model prog w) A (.call (.ref qa) ⟨[v], []⟩) R ⟨h, g, d, t, os⟩ := by
  have F0 := PySem.F.excBase_Exception
  refine codeAny_of_tree ?_
  show wpAny _ A.in1 (callAny (.ref qa) ⟨[v], []⟩) _ _ _
  unfold callAny
  refine wpAny_bind (wpAny_load hq ?_)
  show wpAny _ _ (checkBoundCall "Exception.__init__" ⟨[.ref x, v], []⟩ >>= _) _ _ _
  refine wpAny_bind (xw_bound hC hx ?_)
  refine wpAny_pure (And.intro (Code.quiet_builtin _ (by decide +kernel)) ?_)
  refine codeAny_builtin F0.initEntry ?_
  unfold Builtin.«BaseException.__init__»
  wp_walk
  exact ret
end
end
theorem xs_store : StoreFacts "Exception" [.type "Exception", .type "BaseException", .type "object"] "object.__setattr__" "object" where
  mro := by rw [mroOf_type]; kernel_rfl
  slot := .of (owner := "object") (n := "__setattr__") (by rw [typeLookup_type, builtinLookup_eq_fast]; kernel_rfl) (by decide +kernel) (by decide +kernel) (by decide +kernel)
    (by first | exact .inl (by decide +kernel) | exact .inr (by decide +kernel)) (by rw [isSubtype_type]; kernel_rfl)
  entry := PySem.F.store_object.entry
  kind := PySem.F.store_object.kind
  split := PySem.F.store_object.split
  hasOwner := by decide +kernel
  args := PySem.F.store_object.args
  passes := fun self => by kernel_rfl
theorem xs_none : typeLookup (.type "Exception") (Str.ofString "errno") = pure none := by rw [typeLookup_type, builtinLookup_eq_fast]; kernel_rfl
section
variable {M : Model} {A : Around} {env : Env} {pos : Pos} {first : List Value} {Q : Value → Shared → Prop} {q x : Addr}
theorem keeps_W (h : Heap) (X : h.get? q = some (mwObj x)) : ∃ k, (k = Keeper.frame ∨ k = Keeper.machine ∨ k = Keeper.boundFrame) ∧ Looks M h (keeperOf (.ref q)) k :=
  ⟨.machine, .inr (.inl rfl), (Looks.ld (part := none) X).andThen .now⟩
theorem callWith_W {e : PySem.Expr} {rest : List PySem.Expr} (h : wpAny M A (spliced (backTo pos (starEach (e :: rest) env))) (fun vs s₁ => s₁.heap.get? q = some (mwObj x) ∧ wpAny M A (call (.ref q) (first ++ vs)) Q E s₁) E s)
    (he : starEach (e :: rest) env = (false, eval e env) :: starEach rest env := by rfl) (hplain : (backTo pos (starEach rest env)).any (·.1) = false := by rfl) :
    wpAny M A (callWith pos (.ref q) first (backTo pos (starEach (e :: rest) env)) []) Q E s := by
  rw [he] at h ⊢
  exact callWith_of (by show ((false || (backTo pos (starEach rest env)).any (·.1)) || false) = false; rw [hplain]; rfl) keeps_W (evalArgs_plain h)
end
theorem kx_cls {P : Params} {h : Heap} {Z : Prop} (X : (KK P).In h) (k : ∀ nm q bs sn sub ab col dd k0 k1 k2 k3 k5, h.get? 41 = some (excClassObj nm q 41 40 bs [.type "Exception", .type "BaseException", .type "object"] true sn sub ab col dd k0 k1 k2 k3 k5 "Exception.__new__") → Z) : Z :=
  k _ _ _ _ _ _ _ _ _ _ _ _ _ (X 41 _ rfl)
theorem kx_ns {P : Params} {h : Heap} (X : (KK P).In h) : h.Ns 40 (h.nsMap 40) ∧ h.nsMap 40 (Str.ofString "__setattr__") = none ∧ h.nsMap 40 (Str.ofString "errno") = none :=
  have ok : nsOkIn (KK P) 40 = true := by kernel_rfl
  ⟨.of_isNs (isNs_of_in X ok), nsMap_none_of_in X ok (by kernel_rfl), nsMap_none_of_in X ok (by kernel_rfl)⟩
section
variable {A : Around}
/-- an object that the ledger bears, changed; what else it bears -/
theorem upd_FN {h h' : Heap} {e : Addr} {oe o' : Obj} {rest : List (Addr × Obj)} (F : Fr h₀ L h m) (N : News h₀ L h news) (he : (e, oe) ∈ news) (hs : ∀ q ∈ rest, q ∈ news) (hne : ∀ q ∈ rest, q.1 ≠ e) (k : ∀ b o, b ≠ e → h.get? b = some o → h'.get? b = some o) (e1 : h'.get? e = some o') :
    Fr h₀ L h' m ∧ News h₀ L h' ((e, o') :: rest) := by
  have g := N _ he
  refine ⟨LCg.fr_but F (fun b o hb => k b o (by simpa using hb)) (Ne.symm g.2.1) g.2.2, fun p hp => ?_⟩
  rcases List.mem_cons.mp hp with rfl | hp
  · exact ⟨e1, g.2⟩
  · exact ⟨k _ _ (hne p hp) (N p (hs p hp)).1, (N p (hs p hp)).2⟩
theorem x_getm {e t0 so : Addr} {pl : Sem Bool} {Q : Value × List Value → Shared → Prop} (F : Fr h₀ L s.heap m) (X₀ : (KK w.params).In h₀) (N : News h₀ L s.heap news) (hso : (so, ks_superObj 41 e 41) ∈ news) (he : (e, excObj 41 t0) ∈ news)
    (h : ∀ q h', Fr h₀ L h' m → News h₀ L h' ((q, mwObj e) :: news) → (∀ p ∈ news, p.1 < q) → Q (.ref q, []) { s with heap := h', toks := s.toks + 1 }) : wpAny (model PR w) A (getMethod (.ref so) (Str.ofString "__init__") pl) Q E s := by
  have X := X₀.keeps F.keep
  obtain ⟨hh, g, d, t, os⟩ := s
  have hc : ∃ cd, clsIn (KK w.params) 41 = some cd ∧ alongIn (KK w.params) (Str.ofString "__init__") ((cd.mro.dropWhile (· != .ref 41)).drop 1) = some (some (.builtin "Exception.__init__")) := ⟨_, rfl, by kernel_rfl⟩
  obtain ⟨cd, hc, hal⟩ := hc
  have hne : e ≠ 41 := fun q => by
    have := (N _ he).1
    refine kx_cls X ?_
    intro _ _ _ _ _ _ _ _ _ _ _ _ _ hC
    rw [q, hC] at this
    cases this
  refine xw_get (N _ hso).1 (looks_opaque X (by k_is)) (l₀ := cd.mro) ?_ rfl X hal ⟨_, (N _ he).1, rfl⟩ (looks_mroIn X (by k_is)) hne (by decide) ?_
  · exact fun A Q E s k q => wpAny_bind ((looks_clsIn X hc) A _ E s k (wpAny_pure q))
  · obtain ⟨F', N', l'⟩ := ks_newsPush (s := ⟨hh, g, d, t, os⟩) (o := mwObj e) F N rfl (Heap.get?_push_at rfl rfl) (fun b o e => Heap.get?_push_of_some _ e)
    exact h _ _ F' N' l'
theorem x_callK {e t0 q : Addr} {v : Value} {rest : List (Addr × Obj)} {Q : Value → Shared → Prop} (F : Fr h₀ L s.heap m) (X₀ : (KK w.params).In h₀) (N : News h₀ L s.heap news) (hq : (q, mwObj e) ∈ news) (he : (e, excObj 41 t0) ∈ news) (hs : ∀ q ∈ rest, q ∈ news) (hne : ∀ q ∈ rest, q.1 ≠ e)
    (h : ∀ t1 h', Fr h₀ L h' m → News h₀ L h' ((t1, { cls := .type "tuple", data := .seq #[v] }) :: (e, excObj 41 t1) :: rest) → (∀ p ∈ news, p.1 < t1) → Q .none { s with heap := h' }) : wpAny (model PR w) A (call (.ref q) [v]) Q E s := by
  have X := X₀.keeps F.keep
  refine kx_cls X ?_
  intro _ _ _ _ _ _ _ _ _ _ _ _ _ hC
  obtain ⟨hh, g, d, t, os⟩ := s
  refine wpAny_call (xw_code hC (N _ hq).1 (N _ he).1 ?_)
  have N1 := N.push F ({ cls := .type "tuple", data := .seq #[v] } : Obj)
  have F1 := F.push ({ cls := .type "tuple", data := .seq #[v] } : Obj)
  have g1 := N1 _ (List.mem_cons_of_mem _ he)
  have l1 : ∀ p ∈ news, p.1 < hh.objs.size := fun p hp => Heap.lt_size (N p hp).1
  obtain ⟨F2, N2⟩ := upd_FN (rest := (hh.objs.size, { cls := .type "tuple", data := .seq #[v] }) :: rest) F1 N1 (List.mem_cons_of_mem _ he) (fun p hp => by
    rcases List.mem_cons.mp hp with rfl | hp
    · exact .head _
    · exact .tail _ (hs p hp)) (fun p hp => by
    rcases List.mem_cons.mp hp with rfl | hp
    · exact Nat.ne_of_gt (l1 _ he)
    · exact hne p hp) (fun b o hb eb => (Heap.get?_update_ne _ _ _ _ hb).trans eb) (o' := excObj 41 hh.objs.size) ((Heap.get?_update_self (Obj.mapFields (·.setIfInBounds 0 (.ref hh.objs.size))) g1.1 rfl).trans rfl)
  refine h hh.objs.size _ F2 (fun p hp => N2 p ?_) l1
  rcases List.mem_cons.mp hp with rfl | hp
  · exact .tail _ (.head _)
  rcases List.mem_cons.mp hp with rfl | hp
  · exact .head _
  · exact .tail _ (.tail _ hp)
theorem x_setK {e t1 : Addr} {v : Value} {rest : List (Addr × Obj)} {Q : Unit → Shared → Prop} (F : Fr h₀ L s.heap m) (X₀ : (KK w.params).In h₀) (N : News h₀ L s.heap news) (he : (e, excObj 41 t1) ∈ news) (hs : ∀ q ∈ rest, q ∈ news) (hne : ∀ q ∈ rest, q.1 ≠ e)
    (h : ∀ oe h' tk', oe.cls = .ref 41 → oe.data = .fields #[.ref t1, .none, .none, .none, .bool false, .none] → Fr h₀ L h' m → News h₀ L h' ((e, oe) :: rest) → Q () { s with heap := h', toks := tk' }) : wpAny (model PR w) A (setAttr (.ref e) (Str.ofString "errno") v) Q E s := by
  have X := X₀.keeps F.keep
  refine kx_cls X ?_
  intro _ _ _ _ _ _ _ _ _ _ _ _ _ hC
  obtain ⟨n1, n2, n3⟩ := kx_ns X
  have hne' : e ≠ 41 := fun q => by
    have := (N _ he).1
    rw [q, hC] at this
    cases this
  obtain ⟨hh, g, d, t, os⟩ := s
  refine store_attr xs_store hC n1 n2 n3 xs_none hne' (mA := fun _ => none) (ns := []) ⟨_, (N _ he).1, rfl, fun c q => (by cases q), .inl ⟨rfl, fun _ => rfl⟩⟩ (fun h' tk' _ k1 k2 => ?_) ?w1 ?w2
  case w1 => exact Within.nil
  case w2 => exact Nat.zero_le _
  obtain ⟨o₁, e1, e2, e3, _⟩ := k2 _ (N _ he).1
  obtain ⟨F2, N2⟩ := upd_FN F N he hs hne (fun b o hb eb => k1 b o hb (fun o₀ dx q1 q2 => by rw [(N _ he).1] at q1; cases q1; cases q2) eb) e1
  exact h o₁ h' tk' e2 e3 F2 N2
end
theorem x_init {R : Result → Shared → Prop} {e t0 : Addr} {msg : Str} {tm tk0 : Tok} {rest : List (Addr × Obj)} (B : Below A₀ base outer h₀) (F : Fr h₀ L s.heap m) (X : (KK w.params).In h₀) (N : News h₀ L s.heap news) (T : Top VW LO mean mg mb h₀) (hk : cs.kind = .function) (hd : dp + 12 < recursionLimit) (hu : un + 90 < cLine)
    (he : (e, excObj 41 t0) ∈ news) (hs : ∀ q ∈ rest, q ∈ news) (hne : ∀ q ∈ rest, q.1 ≠ e)
    (ret : ∀ oe t1 h' tk', oe.cls = .ref 41 → oe.data = .fields #[.ref t1, .none, .none, .none, .bool false, .none] → Fr h₀ L h' m → News h₀ L h' ((e, oe) :: (t1, { cls := .type "tuple", data := .seq #[.str msg tm] }) :: rest) → (∀ q ∈ rest, q.1 < t1) → R (.ok (.ret .none)) { s with heap := h', toks := tk' }) :
    codeAny (model PR w) (ktrTop dp un gd cn cs L a ccd cl outer) (.call (.ref 38) ⟨[.ref e, .str msg tm], [(Str.ofString "errno", .int 20 tk0)]⟩) R s := by
  have sm7 : SMk 7 := trivial
  refine' ks_code_super B F X N T (by exact rfl) (by exact rfl) hk (by k_is) (by k_is) (by walk_at "my:room") (by first | exact BindsTo.of_eq rfl | exact binds_K (by k_in) rfl (by k_is) rfl rfl rfl) (by exact locs rfl) ?_ (by decide) (by exact rfl) (by exact rfl) (by exact rfl)
  intro g' L' h' FG' F' N' B' X' T' l1
  (try k_lt l1); (try dsimp only); (try k_lift B')
  k_steps
  refine ks_node (by k_asm) (by k_asm) (by k_asm) (by k_asm) (by k_is) (by rfl) (by rfl) (show InstAt _ e (excObj 41 t0) 41 none from ⟨(N' _ he).1, rfl, rfl, trivial⟩) (by k_is) (by rfl) (by first | rfl | decide +kernel) (by k_is) (by k_is) (by k_is) (by k_is) (by decide) (by rfl) (by rfl) (by rfl) (by rfl) (by decide +kernel) (by first | boot_by_name | rfl | kernel_rfl) ?_
  intro so9 h9 F9 N9 lt9
  dsimp only
  refine x_getm F9 X' N9 (.head _) (.tail _ he) ?_
  intro q9 h9 F9 N9 lt9
  dsimp only
  refine callWith_W (q := q9) (x := e) ?_
  k_steps
  · exact (N9 _ (.head _)).1
  refine x_callK (rest := rest) (by k_asm) (by k_asm) N9 (.head _) (.tail _ (.tail _ he)) (fun p hp => .tail _ (.tail _ (hs p hp))) hne ?_
  intro t9 h9 F9 N9 lt9
  dsimp only
  (k_with "setAttr ref" => (first | ((have q9 : SMk 7 := (by with_reducible assumption)); clear q9; (first | (k_here; k_dflt (refine' x_setK (rest := (t9, { cls := .type "tuple", data := .seq #[.str msg tm] }) :: rest) (by k_asm) (by k_asm) N9 (.tail _ (.head _)) ?hs9 ?hn9 ?_; k_whole); (case hs9 => intro p9 hp9; (rcases List.mem_cons.mp hp9 with rfl | hp9); exact .head _; exact .tail _ (.tail _ hp9)); (case hn9 => intro p9 hp9; (rcases List.mem_cons.mp hp9 with rfl | hp9); exact Nat.ne_of_gt (lt9 _ (.tail _ (.tail _ he))); exact hne _ hp9); intro oe9 h9 tk9 oc9 od9 F9 N9; (try dsimp only); (try k_fold)) | fail)) | fail))
  k_steps
  all_goals (exact ret _ _ _ _ oc9 od9 (by k_asm) (by walk_at "my:n") (fun q hq => lt9 q (.tail _ (.tail _ (hs q hq)))))
theorem x_excK {msg : Str} {tm tk0 : Tok} {Q : Value → Shared → Prop} (B : Below A₀ base outer h₀) (F : Fr h₀ L s.heap m) (X₀ : (KK w.params).In h₀) (N : News h₀ L s.heap news) (T : Top VW LO mean mg mb h₀) (hk : cs.kind = .function) (hd : dp + 16 < recursionLimit) (hu : un + 110 < cLine)
    (ret : ∀ e oe t1 h' tk', oe.cls = .ref 41 → oe.data = .fields #[.ref t1, .none, .none, .none, .bool false, .none] → Fr h₀ L h' m → News h₀ L h' ((e, oe) :: (t1, { cls := .type "tuple", data := .seq #[.str msg tm] }) :: news) → (∀ p ∈ news, p.1 ≠ e ∧ p.1 ≠ t1) → Q (.ref e) { s with heap := h', toks := tk' }) :
    wpAny (model PR w) (ktrTop dp un gd cn cs L a ccd cl outer) (call (.ref 41) [.str msg tm] [(Str.ofString "errno", .int 20 tk0)]) Q E s := by
  have X := X₀.keeps F.keep
  refine kx_cls X ?_
  intro _ _ _ _ _ _ _ _ _ _ _ _ _ hC
  have hin : Looks (model PR w) s.heap (typeLookup (.ref 41) (Str.ofString "__init__")) (some (.ref 38)) := looks_findIn X (by k_is)
  have htp : Looks (model PR w) s.heap (isInstance (.ref 41) (.type "type")) true := looks_instIn X (by kernel_rfl)
  have hsf : Looks (model PR w) s.heap (isSubtype (.ref 41) (.ref 41)) true := looks_mroIn X (by k_is)
  have hbf : ∀ self, Looks (model PR w) s.heap (bindSpecial (.ref 38) self) (.ref 38, [self]) := fun self => bind_fn X self (by k_is)
  have l1 : ∀ p ∈ news, p.1 < s.heap.objs.size := fun p hp => Heap.lt_size (N p hp).1
  have N1 := (N.push F ({ cls := .type "tuple", data := .seq #[.str msg tm] } : Obj)).push (F.push _) (excObj 41 s.heap.objs.size)
  rw [Heap.size_push] at N1
  have F1 := (F.push ({ cls := .type "tuple", data := .seq #[.str msg tm] } : Obj)).push (excObj 41 s.heap.objs.size)
  obtain ⟨hh, g, d, t, os⟩ := s
  refine wpAny_call (x_make PySem.F.excBase_Exception hC (by show 1 ≤ _; rw [PySem.sizeLine_eq]; decide) htp hsf hin hbf ?_)
  refine' x_init (rest := news) (tm := tm) B F1 X₀ N1 T hk ?r1 ?r2 (.head _) (fun p hp => .tail _ (.tail _ hp)) (fun p hp => Nat.ne_of_lt (Nat.lt_succ_of_lt (l1 p hp))) ?_
  case r1 => (show dp + 1 + 12 < _; omega)
  case r2 => (show un + 1 + 90 < _; omega)
  intro oe t1 h' tk' e1 e2 F' N' l2
  exact ⟨rfl, ret _ oe t1 h' tk' e1 e2 F' N' (fun p hp => ⟨Nat.ne_of_lt (Nat.lt_succ_of_lt (l1 p hp)), Nat.ne_of_lt (l2 p hp)⟩)⟩
def IsExcCls (h : Heap) (C : Addr) (bm : List Value) : Prop := ∀ Z : Prop, (∀ nm q Nn bs hdct sn sub ab col dd k0 k1 k2 k3 k5 newId, h.get? C = some (excClassObj nm q C Nn bs bm hdct sn sub ab col dd k0 k1 k2 k3 k5 newId) → Z) → Z
theorem kx_exc {P : Params} {h : Heap} (X : (KK P).In h) : IsExcCls h 41 [.type "Exception", .type "BaseException", .type "object"] :=
  fun _ k => kx_cls X fun _ _ _ _ _ _ _ _ _ _ _ _ _ hC => k _ _ _ _ _ _ _ _ _ _ _ _ _ _ _ _ hC
section
variable {M : Model} {A : Around} {env : Env} {C : Addr} {bm : List Value}
theorem x_raiseStmt {x : Sem Value} {Q : Flow → Shared → Prop} (hbase : bm.contains (.type "BaseException") = true) (hh : A.handled = none)
    (h : wpAny M A x (fun v s₁ => ∃ e oe t, v = .ref e ∧ IsExcCls s₁.heap C bm ∧
      s₁.heap.get? e = some oe ∧ oe.cls = .ref C ∧ oe.data = .fields #[.ref t, .none, .none, .none, .bool false, .none] ∧ E (.ref e) s₁) E s) :
    wpAny M A (raiseStmt env (some x) none) Q E s := by
  have hcB : (Value.ref C :: bm).contains (.type "BaseException") = true := by rw [List.contains_cons, hbase, Bool.or_true]
  unfold raiseStmt
  refine wpAny_bind (wpAny_mono h (fun v s₁ h₁ => ?_) fun _ _ x => x)
  refine hideG fun Z hZ => ?_
  obtain ⟨e, ⟨oc, od, odt, osl⟩, t, rfl, hX, he, rfl, rfl, hE⟩ := h₁
  refine hX _ ?_
  intro _ _ _ _ _ _ _ _ _ _ _ _ _ _ _ _ hC
  refine hZ ?_
  clear hZ hX Z
  obtain ⟨hp, g, d, tk, os⟩ := s₁
  repeat (first | with_reducible refine wpAny_loadPart_at he ?_ | with_reducible refine wpAny_loadPart_at hC ?_ | (with_reducible refine wpAny_isSubtype_exc hC ?_; rw [hcB]) | wp_step)
  exact wpAny_raiseNew_none hh hE
def ExcUp (E : Value → Shared → Prop) (C : Addr) (bm : List Value) (v : Value) (s₁ : Shared) : Prop := ∃ e oe t, v = .ref e ∧ IsExcCls s₁.heap C bm ∧
      s₁.heap.get? e = some oe ∧ oe.cls = .ref C ∧ oe.data = .fields #[.ref t, .none, .none, .none, .bool false, .none] ∧ E (.ref e) s₁
theorem x_Raise {ex : PySem.Expr} {pos : Pos} {Q : Flow → Shared → Prop} (hbase : bm.contains (.type "BaseException") = true) (hh : A.handled = none)
    (h : wpAny M A (eval ex env) (ExcUp E C bm) E s) :
    wpAny M A (exec (.Raise (some ex) none pos) env) Q E s := by
  rw [arm_exec_Raise]
  exact wpAny_bind (wpAny_standAt (x_raiseStmt (C := C) (bm := bm) hbase hh (wpAny_bind (wpAny_mono h (fun v s₃ h₃ => wpAny_bind (wpAny_standAt (wpAny_pure h₃))) fun _ _ x => x))))
end
/-! ## a flying exception whose context is none -/
section
variable {M : Model} {A : Around}
def Ctx2 (e : Addr) (h : Heap) : Prop := ∃ oe vs, h.get? e = some oe ∧ oe.data = .fields vs ∧ vs[2]? = some .none
theorem x_entry {b₀ : Heap} {env : Env} {outer : List Env} {L e : Addr} {oe : Obj} {vs : Array Value} {head a0 : Value} {hadNext : Bool} {Q : Unit → Shared → Prop}
    (hfr : A.frames = some (env :: outer)) (hl : s.heap.FunFrames b₀ (env :: outer)) (hf : env.frame = some L)
    (he : s.heap.get? e = some oe) (hkb : b₀.StaysIn s.heap) (hen : b₀.get? e = none) (hd : oe.data = .fields vs) (hsz : 1 < vs.size) (h0 : vs[0]? = some a0) (h2 : vs[2]? = some .none)
    (h : ∀ h', Heap.NotedW b₀ (env :: outer) e oe.cls a0 (rawInt L) s.heap h' → Ctx2 e h' → Q () { s with heap := h' }) :
    wpAny M A (do let a ← frameOf env; let pl ← entryPlaceOf L hadNext; let b ← EntryCells.newEntry head a .none (rawInt L) .none pl; setField (.ref e) 1 b) Q E s := by
  have notFrame : e ∉ (env :: outer).filterMap (·.frame) := fun hm => by
    obtain ⟨_, o, ho, hnf⟩ := hl.mem hm
    rw [he] at ho
    cases ho
    exact hnf vs hd
  refine wpAny_bind (wpAny_frameOf_fun hfr hl hf fun g hg => wpAny_bind (wpAny_entryPlaceOf fun pl hpl => ?_))
  unfold EntryCells.newEntry newFields
  refine wpAny_bind (wpAny_newObj_type ?_ (hpl.sizeOk5 _ _ _ _ _))
  have ge : g.get? e = some oe := (hg.2.1 e notFrame).trans he
  have gb : b₀.StaysIn g := fun b o q => (hg.2.1 b fun hm => by rw [(hl.mem hm).1] at q; cases q).trans (hkb b o q)
  obtain ⟨tb, htb⟩ : ∃ tb : Obj, tb = { cls := .type "traceback", dict := none, data := .fields ([head, .ref L, .none, rawInt L, .none] ++ (if pl.isEmpty then List.replicate 6 Value.none else pl)).toArray } := ⟨_, rfl⟩
  rw [← htb]
  have ge2 : (g.push tb).get? e = some oe := Heap.get?_push_of_some _ ge
  have hTe : g.objs.size ≠ e := Nat.ne_of_gt (Heap.lt_size ge)
  have d3 := Obj.data_mapFields hd (·.setIfInBounds 1 (Value.ref g.objs.size))
  have e3 := Heap.get?_update_self (Obj.mapFields (·.setIfInBounds 1 (Value.ref g.objs.size))) ge2 (Obj.isFreed_of_fields d3)
  have keep : ∀ b o, b ≠ e → g.get? b = some o → ((g.push tb).update e (Obj.mapFields (·.setIfInBounds 1 (Value.ref g.objs.size)))).get? b = some o := fun b o hb q =>
    (Heap.get?_update_ne _ _ _ _ hb).trans (Heap.get?_push_of_some _ q)
  have hT : ((g.push tb).update e (Obj.mapFields (·.setIfInBounds 1 (Value.ref g.objs.size)))).get? g.objs.size = some tb := (Heap.get?_update_ne _ _ _ _ hTe).trans (Heap.get?_push_size g (by rw [htb]; rfl))
  have far : ∀ b o, s.heap.get? b = some o → (∀ vs, o.data ≠ .fields vs) → b ≠ e := fun b o q n r => by
    rw [r, he] at q
    cases q
    exact n vs hd
  refine wpAny_setField ge2 hd hsz (h _ ⟨fun b o q => keep b o (fun r => by rw [r, hen] at q; cases q) (gb b o q), hl.of_keeps fun b o q n => ?_, ?_, fun b o q n => ?_⟩ ⟨_, _, e3, d3, by rw [Array.getElem?_setIfInBounds_ne (by decide)]; exact h2⟩)
  · obtain ⟨sl, hs⟩ := hg.2.2 b o q
    exact ⟨_, keep b _ (far b o q n) hs, rfl⟩
  · exact ⟨_, _, g.objs.size, _, _, e3, ⟨Obj.cls_mapFields _ _, by rw [Array.getElem?_setIfInBounds_ne (by decide)]; exact h0⟩, d3, by simp [hsz], gb.fresh, hTe, hT, by rw [htb], by first | (simp; done) | (rcases hpl with rfl | ⟨_, _, _, _, _, _, _, rfl⟩ <;> simp)⟩
  · obtain ⟨sl, hs⟩ := hg.2.2 b o q
    exact ⟨sl, keep b _ (far b o q n) hs⟩
/-- in the air above these frames, its context none -/
def FlyZ (b₀ : Heap) (l : List Env) (e : Addr) (cls a0 : Value) (h : Heap) : Prop := Heap.FlyingW b₀ l e cls a0 h ∧ Ctx2 e h
theorem x_setfl {b₀ : Heap} {l : List Env} {e : Addr} {cls a0 fl : Value} {Q : Unit → Shared → Prop} (hkb : b₀.StaysIn s.heap) (hen : b₀.get? e = none) (hl : s.heap.FunFrames b₀ l) (ht : s.heap.TracedAtW b₀ e cls a0 fl) (hc : Ctx2 e s.heap)
    (h : ∀ h', FlyZ b₀ l e cls a0 h' → s.heap.UpToSlots h' → Q () { s with heap := h' }) : wpAny M A (setFlight (.ref e) none) Q E s := by
  obtain ⟨oe, vs, T, oT, ts, he, hcls, hd, h1, hnT, hTe, hT, hdT, h3⟩ := ht
  have hz : 3 < ts.size := (Array.getElem?_eq_some_iff.mp h3).1
  unfold setFlight
  refine wpAny_bind (wpAny_field he hd h1 ?_)
  rw [if_pos (show (Value.ref T != Value.none) = true from by simp)]
  have k : ∀ b, b ≠ T → (s.heap.update T (Obj.mapFields (·.setIfInBounds 3 Value.none))).get? b = s.heap.get? b := fun b hb => Heap.get?_update_ne _ _ _ _ hb
  have far : ∀ b o, s.heap.get? b = some o → (∀ vs, o.data ≠ .fields vs) → b ≠ T := fun b o q n r => by
    rw [r, hT] at q
    cases q
    exact n ts hdT
  refine wpAny_setField hT hdT hz (h _ ⟨⟨fun b o q => (k b fun r => by rw [r, hnT] at q; cases q).trans (hkb b o q), hen, hl.of_keeps fun b o q n => ⟨o, (k b (far b o q n)).trans q, rfl⟩, ?_⟩, ?_⟩ fun b o q n => ⟨o.slots, (k b (far b o q n)).trans q⟩)
  · exact ⟨oe, vs, T, _, _, (k e (Ne.symm hTe)).trans he, hcls, hd, h1, hnT, hTe, Heap.get?_update_self _ hT (Obj.isFreed_of_fields (Obj.data_mapFields hdT _)), Obj.data_mapFields hdT _, by simp [hz]⟩
  · obtain ⟨oe', vs', q1, q2, q3⟩ := hc
    exact ⟨oe', vs', (k e (Ne.symm hTe)).trans q1, q2, q3⟩
theorem x_note {b₀ : Heap} {env : Env} {outer : List Env} {L e : Addr} {cls a0 : Value} {Q : Unit → Shared → Prop} (hfr : A.frames = some (env :: outer)) (hf : env.frame = some L) (hfl : FlyZ b₀ (env :: outer) e cls a0 s.heap)
    (h : ∀ h', Heap.NotedW b₀ (env :: outer) e cls a0 (rawInt L) s.heap h' → Ctx2 e h' → Q () { s with heap := h' }) : wpAny M A (noteFrame (.ref e) env) Q E s := by
  obtain ⟨⟨hkb, hen, hl, oe, vs, T, oT, ts, he, ⟨hcls, h0⟩, hd, h1, hnT, hTe, hT, hdT, h3⟩, oe', vs', q1, q2, q3⟩ := hfl
  rw [he] at q1
  cases q1
  rw [hd] at q2
  cases q2
  subst hcls
  unfold noteFrame
  simp only [hf]
  refine wpAny_bind (wpAny_field he hd h1 ?_)
  rw [if_pos (show (Value.ref T != Value.none) = true from by simp)]
  refine wpAny_bind (wpAny_field hT hdT h3 ?_)
  rw [if_neg (show ¬ ((Value.none == rawInt L) = true) from by simp [rawInt])]
  refine wpAny_bind (wpAny_setField hT hdT (Array.getElem?_eq_some_iff.mp h3).1 ?_)
  have k : ∀ b, b ≠ T → (s.heap.update T (Obj.mapFields (·.setIfInBounds 3 Value.none))).get? b = s.heap.get? b := fun b hb => Heap.get?_update_ne _ _ _ _ hb
  have far : ∀ b o, s.heap.get? b = some o → (∀ vs, o.data ≠ .fields vs) → b ≠ T := fun b o q n r => by
    rw [r, hT] at q
    cases q
    exact n ts hdT
  exact x_entry hfr (hl.of_keeps fun b o q n => ⟨o, (k b (far b o q n)).trans q, rfl⟩) hf ((k e (Ne.symm hTe)).trans he) (fun b o q => (k b fun r => by rw [r, hnT] at q; cases q).trans (hkb b o q)) hen hd (Array.getElem?_eq_some_iff.mp h1).1 h0 q3
    fun h' ⟨x1, x2, x3, x4⟩ c => h h' ⟨x1, x2, x3, fun b o q n => x4 b o ((k b (far b o q n)).trans q) n⟩ c
theorem x_leave1 {b₀ : Heap} {env : Env} {outer : List Env} {L e : Addr} {oe : Obj} {vs : Array Value} {a0 : Value} {Q : Unit → Shared → Prop} (hfr : A.frames = some (env :: outer)) (hl : s.heap.FunFrames b₀ (env :: outer)) (hf : env.frame = some L)
    (he : s.heap.get? e = some oe) (hkb : b₀.StaysIn s.heap) (hen : b₀.get? e = none) (hd : oe.data = .fields vs) (h1 : vs[1]? = some .none) (h0 : vs[0]? = some a0) (h2 : vs[2]? = some .none)
    (h : ∀ h', FlyZ b₀ outer e oe.cls a0 h' → s.heap.UpToSlots h' → Q () { s with heap := h' }) : wpAny M A (leaving env (.ref e)) Q E s := by
  unfold leaving noteFrame
  simp only [hf]
  refine wpAny_bind (wpAny_bind (wpAny_field he hd h1 ?_))
  rw [if_neg (by decide)]
  refine x_entry hfr hl hf he hkb hen hd (Array.getElem?_eq_some_iff.mp h1).1 h0 h2 fun h' ⟨x1, x2, x3, x4⟩ c => ?_
  refine x_setfl x1 hen x2 x3 c fun h'' ⟨⟨y1, y2, ⟨_, _, y3⟩, y4⟩, y5⟩ u => ?_
  exact h h'' ⟨⟨y1, y2, y3, y4⟩, y5⟩ (Heap.UpToSlots.trans x4 u)
theorem x_leave2 {b₀ : Heap} {env : Env} {outer : List Env} {L e : Addr} {cls a0 : Value} {Q : Unit → Shared → Prop} (hfr : A.frames = some (env :: outer)) (hf : env.frame = some L) (hfl : FlyZ b₀ (env :: outer) e cls a0 s.heap)
    (h : ∀ h', FlyZ b₀ outer e cls a0 h' → s.heap.UpToSlots h' → Q () { s with heap := h' }) : wpAny M A (leaving env (.ref e)) Q E s := by
  have hen := hfl.1.2.1
  unfold leaving
  refine wpAny_bind (x_note hfr hf hfl fun h' ⟨x1, x2, x3, x4⟩ c => ?_)
  refine x_setfl x1 hen x2 x3 c fun h'' ⟨⟨y1, y2, ⟨_, _, y3⟩, y4⟩, y5⟩ u => ?_
  exact h h'' ⟨⟨y1, y2, y3, y4⟩, y5⟩ (Heap.UpToSlots.trans x4 u)
end
section
variable {M : Model} {A : Around} {s' : Shared} {g : Heap} {e t : Addr} {name : Str} {scope : Scope} {cd : Value}
def RaisedZ (base : Heap) (l : List Env) (e : Addr) (cls : Value) (news : List (Addr × Obj)) (h : Heap) : Prop :=
  ∃ B t, base.StaysIn B ∧ (∀ q ∈ news, B.get? q.1 = some q.2 ∧ base.get? q.1 = none) ∧ FlyZ B l e cls (.ref t) h
theorem RaisedZ.sub {base h : Heap} {l : List Env} {e : Addr} {cls : Value} {nw nw' : List (Addr × Obj)} (R : RaisedZ base l e cls nw h) (hs : ∀ p ∈ nw', p ∈ nw) : RaisedZ base l e cls nw' h :=
  let ⟨B, t, b1, b2, b3⟩ := R
  ⟨B, t, b1, fun q hq => b2 q (hs q hq), b3⟩
theorem x_onK {g₂ : Heap} {cls : Value} {Q : Unit → Shared → Prop} (K : Below A base outer g) (F : Fr g L g₂ m) (R : RaisedZ base (envOf name scope L a cd :: outer) e cls news s'.heap) (hsm : g₂.UpToSlots s'.heap)
    (hQ : ∀ h', RaisedZ base outer e cls news h' → g.UpToSlots h' → Q () { s' with heap := h' }) :
    wpAny M (A.deeper (envOf name scope L a cd)) (leaving (envOf name scope L a cd) (.ref e)) Q E s' := by
  obtain ⟨B, t, hB, hl, hfl⟩ := R
  exact x_leave2 (Around.frames_deeper K.stack) rfl hfl fun h' x1 x2 => hQ h' ⟨B, t, hB, hl, x1⟩ ((Heap.UpToSlots.of_keeps F.keep).trans (hsm.trans x2))
theorem x_leaveK {cls : Value} {vs : List Value} {oe to : Obj} {Q : Unit → Shared → Prop} (K : Below A base outer g) (F : Fr g L s'.heap m) (N : News g L s'.heap ((e, oe) :: (t, to) :: news)) (hc : oe.cls = cls) (hd : oe.data = .fields #[.ref t, .none, .none, .none, .bool false, .none]) (hto : to = { cls := .type "tuple", data := .seq vs.toArray })
    (hne : ∀ q ∈ news, q.1 ≠ e ∧ q.1 ≠ t)
    (hQ : ∀ h', RaisedZ base outer e cls news h' → g.UpToSlots h' → Q () { s' with heap := h' }) (hk : scope.kind = .function := by rfl) :
    wpAny M (A.deeper (envOf name scope L a cd)) (leaving (envOf name scope L a cd) (.ref e)) Q E s' := by
  have K' := K.push (name := name) (a := a) (cd := cd) F hk
  have ge := N _ (.head _)
  have gt := N _ (.tail _ (.head _))
  have hin : ∀ env ∈ (envOf name scope L a cd :: outer), ∀ b, env.frame = some b → b ∈ e :: t :: (envOf name scope L a cd :: outer).filterMap (·.frame) := fun env he b hb => .tail _ (.tail _ (List.mem_filterMap.mpr ⟨env, he, hb⟩))
  have be := fresh_of_stays K.stays ge.2.2
  have bt := fresh_of_stays K.stays gt.2.2
  have st : base.StaysIn (hideAll s'.heap (e :: t :: (envOf name scope L a cd :: outer).filterMap (·.frame))) := fun b o q => hideAll_get _ (K'.stays b o q) fun hm => by
    rcases List.mem_cons.mp hm with rfl | hm
    · rw [be] at q; cases q
    rcases List.mem_cons.mp hm with rfl | hm
    · rw [bt] at q; cases q
    rw [(K'.frames.mem hm).1] at q; cases q
  have hl : ∀ q ∈ news, (hideAll s'.heap (e :: t :: (envOf name scope L a cd :: outer).filterMap (·.frame))).get? q.1 = some q.2 ∧ base.get? q.1 = none := fun q hq => by
    have gq := N q (.tail _ (.tail _ hq))
    refine ⟨hideAll_get _ gq.1 fun hm => ?_, fresh_of_stays K.stays gq.2.2⟩
    rcases List.mem_cons.mp hm with r | hm
    · exact (hne q hq).1 r
    rcases List.mem_cons.mp hm with r | hm
    · exact (hne q hq).2 r
    obtain ⟨env, he, hf⟩ := List.mem_filterMap.mp hm
    rcases List.mem_cons.mp he with rfl | he
    · exact gq.2.1 (Option.some.inj hf).symm
    · obtain ⟨o, ho, _⟩ := (K.frames.mem (List.mem_filterMap.mpr ⟨env, he, hf⟩)).2
      rw [gq.2.2] at ho; cases ho
  have hen : (hideAll s'.heap (e :: t :: (envOf name scope L a cd :: outer).filterMap (·.frame))).get? e = none := hideAll_none _ (.head _)
  have htn : (hideAll s'.heap (e :: t :: (envOf name scope L a cd :: outer).filterMap (·.frame))).get? t = none := hideAll_none _ (.tail _ (.head _))
  refine x_leave1 (a0 := .ref t) K'.stack (funFrames_hide K'.frames hin) rfl ge.1 (fun b o q => of_hideAll _ q) hen hd rfl rfl rfl fun h' hz k4 => ?_
  rw [hc] at hz
  exact hQ h' ⟨_, t, st, hl, hz⟩ ((Heap.UpToSlots.of_keeps F.keep).trans k4)
end
/-- the ledger bears a file's record -/
def FileIn (P : Params) (news : List (Addr × Obj)) (x : Addr) : Prop := ∃ dx od e8 dl par, IsRec P od e8 dl 32 par ∧ (x, instObj 533 dx) ∈ news ∧ (dx, od) ∈ news
theorem c_refuse {x : Addr} {z : Str} {tz : Tok} {Q : Value → Shared → Prop} (B : Below A₀ base outer h₀) (F : Fr h₀ L s.heap m) (X : (KK w.params).In h₀) (N : News h₀ L s.heap news) (T : Top VW LO mean mg mb h₀) (hk : cs.kind = .function) (hd : dp + 40 < recursionLimit) (hu : un + 400 < cLine)
    (hx : FileIn w.params news x)
    (ret : ∀ e h1 h' tk', Fr h₀ L h1 m → RaisedZ base (envX cn cs L a ccd cl :: outer) e (.ref 41) news h' → h1.UpToSlots h' → E (.ref e) { s with heap := h', toks := tk' }) :
    wpAny (model PR w) (ktrTop dp un gd cn cs L a ccd cl outer) (call (.ref 237) [.str z tz, .ref x]) Q E s := by
  have sm8 : SMk 8 := trivial
  refine ex5 hx ?_
  intro dx od e8 dl par hx
  refine hx.1.elim ?_
  intro u1 u2 u3 u4 u5 u6 u7 u8 u9 u10 u11 u12 u13 u14 u15 u16 u17 u18 r1 r2 r3 r4 r5 r6 r7 r8 r9 r10 r11 r12 ho
  have h1 := hx.2.1
  have h2 := hx.2.2
  rw [ho] at h2
  clear hx
  refine wpAny_call ?_
  walk_at "my:enter"
  (k_with "call ref" => (first | ((have q9 : SMk 8 := (by with_reducible assumption)); clear q9; (first | (k_here; (with_reducible show wpAny _ _ (call (Value.ref 41) _ _) _ _ _); k_dflt (refine' x_excK (by k_asm) (by k_asm) (by k_asm) (by k_asm) (by k_asm) (by first | exact rfl | assumption) (by walk_at "my:room") (by walk_at "my:room") ?_; k_whole); intro e9 oe9 t9 h9 tk9 oc9 od9 F9 N9 lt9; (try dsimp only); (try k_fold)) | fail)) | fail))
  (k_with "exec Raise some none" => (first | ((have q9 : SMk 8 := (by with_reducible assumption)); clear q9; (first | (k_here; k_dflt (refine x_Raise (C := 41) (bm := [.type "Exception", .type "BaseException", .type "object"]) (by decide) (by rfl) ?_)) | fail)) | fail))
  k_steps
  refine ⟨e9, oe9, t9, rfl, kx_exc (Frag.In.keeps (by k_asm) (Fr.keep F9)), (N9 _ (.head _)).1, oc9, od9, ?_⟩
  k_steps
  refine' x_leaveK (by k_asm) F9 N9 oc9 od9 rfl lt9 ?_
  intro h9 R9 U9
  dsimp only
  (k_with "leaving ref" => (first | ((have q9 : SMk 8 := (by with_reducible assumption)); clear q9; (first | (k_here; (rename RaisedZ _ _ _ _ _ _ => rz9); (rename Heap.UpToSlots _ _ => uz9); k_dflt (refine' x_onK (by k_asm) (by k_asm) rz9 uz9 ?_; k_whole); intro h9 R9 U9; clear rz9 uz9; (try dsimp only)) | fail)) | fail))
  k_steps
  exact ret e9 _ _ _ (by with_reducible assumption) (R9.sub (fun p hp => .tail _ (.tail _ (.tail _ hp)))) U9
section
variable {prog : Program} {A₀ : Around} {s' : Shared} {h : Heap} {a e t : Addr} {name : Str} {scope : Scope} {cl : List (Str × Addr)} {vs : List Value} {b₀ : Stmt} {suite : List Stmt} {pos np : Pos} {rest : List ExceptHandler} {Q : Flow → Shared → Prop}
/-- the law's own except clause for PyFATException -/
theorem caughtY (hA : A₀.frames = some [envX name scope L a ccd cl]) (F : Fr h₀ L h m) (hsm : h.UpToSlots s'.heap) (R : RaisedZ h₀ [envX name scope L a ccd cl] e (.ref 41) news s'.heap)
    (XX : (KK w.params).In h₀) (T : Top VW LO mean mg mb h₀)
    (k : ∀ h' oe ws, Fr h₀ L h' m → News h₀ L h' ((e, oe) :: news) → oe.data = .fields ws → ws[2]? = some .none →
      wpAny (model prog w) (A₀.mark (some (.ref e))) (execs (b₀ :: suite) (envX name scope L a ccd cl)) Q (fun _ _ => False) { s' with heap := h' })
    (hk : scope.kind = .function := by rfl) (hx : (envX name scope L a ccd cl).kindOf (Str.ofString "PyFATException") = some .globalImplicit := by rfl) :
    wpAny (model prog w) A₀ (noteFrame (.ref e) (envX name scope L a ccd cl))
      (fun _ s₂ => wpAny (model prog w) A₀ (setFlight (.ref e) none) (fun _ s₃ =>
        wpAny (model prog w) A₀ (handleBy (.ref e) (envX name scope L a ccd cl) (.ExceptHandler (some (.Name (Str.ofString "PyFATException") np)) none (b₀ :: suite) pos :: rest)) Q (fun _ _ => False) s₃) (fun _ _ => False) s₂) (fun _ _ => False) s' := by
  obtain ⟨B, t, hB, hl, hfl⟩ := R
  have hL : B.get? L = none := by
    obtain ⟨_, ⟨L', _, hf, hn', _⟩, _⟩ := hfl.1.2.2.1
    obtain rfl : L = L' := Option.some.inj hf
    exact hn'
  have hen := hfl.1.2.1
  refine x_note hA rfl hfl fun h₄ ⟨x1, x2, x3, x4⟩ c₄ => ?_
  refine x_setfl x1 hen x2 x3 c₄ fun h₅ hz hsm₅' => ?_
  have hsm₅ := Heap.UpToSlots.trans x4 hsm₅'
  have hheld' := flyingW_base hB hz.1
  have F₅ := F.of_stays hheld'.1 (hsm.trans hsm₅)
  obtain ⟨ob, hob, hobc⟩ := hheld'.there
  refine wpAny_handleBy_cons (codeAny_handlers_test (nameX_K F₅ XX (by k_asm) (by k_is) ?_ hk hx)) (by intro q; cases q)
  refine kx_cls (XX.keeps F₅.keep) ?_
  intro _ _ _ _ _ _ _ _ _ _ _ _ _ hC
  refine wpAny_excMatches_sub_self hC hob hobc (by decide) (codeAny_handlers_suite ?_)
  refine x_setfl hz.1.1 hen hz.1.2.2.1 hz.1.2.2.2.at hz.2 fun h₆ hz₆ hsm₆ => ?_
  have hfl₆' := flyingW_base hB hz₆.1
  have F₆ := F.of_stays hfl₆'.1 ((hsm.trans hsm₅).trans hsm₆)
  obtain ⟨oe, ws, hoe, hoed, hw2⟩ := hz₆.2
  refine wpAny_passesOwnAt PassesOwnAt.never (k h₆ oe ws F₆ (fun q hq => ?_) hoed hw2)
  rcases List.mem_cons.mp hq with rfl | hq
  · refine ⟨hoe, fun z => ?_, hfl₆'.2.1⟩
    obtain ⟨oL, _, _, eL, dL, _⟩ := F₆.ns
    have eq : h₆.get? L = some oe := z ▸ hoe
    rw [eL] at eq
    cases eq
    rw [hoed] at dL
    cases dL
  · exact ⟨hz₆.1.1 _ _ (hl q hq).1, (fun z => by have := (hl q hq).1; rw [z, hL] at this; cases this), (hl q hq).2⟩
end
/-! ## for and comprehension over a list of the ledger -/
section
open LCg
variable {prog : Program} {A : Around} {env : Env}
def ForSrcL (prog : Program) (w : World) (A : Around) (E : Value → Shared → Prop) (env : Env) (h₀ : Heap) (x : Str) (body : List Stmt) (Q : Flow → Shared → Prop) (xv : Value) (s₁ : Shared) : Prop :=
  ∀ Z : Prop, (∀ (r : Addr) (vs : List Value) (k : Nat) (m : Str → Option Value) (news : List (Addr × Obj)) (J : Nat → (Str → Option Value) → List (Addr × Obj) → Prop),
      xv = .ref r → A.handled = none → Fr h₀ env.locals s₁.heap m → News h₀ env.locals s₁.heap news → (r, W.listOf vs.toArray k) ∈ news → J 0 m news →
      (∀ i v I oI m₁ news₁ h tk, vs[i]? = some v → J i m₁ news₁ → (∀ p ∈ news₁, p.1 ≠ I) → (r, W.listOf vs.toArray k) ∈ news₁ → Fr h₀ env.locals h (fun y => if y = x then some v else m₁ y) → News h₀ env.locals h ((I, oI) :: news₁) →
        wpAny (model prog w) A (execs body env) (ForPost h₀ env.locals s₁ I oI (fun nw => (r, W.listOf vs.toArray k) ∈ nw) (J (i + 1)) (fun r s' => match r with | .ok f => Q f s' | .error e => cameBackBy (model prog w) A env E e s'))
          (notedBy (model prog w) A env fun e s' => cameBackBy (model prog w) A env E e s') { s₁ with heap := h, toks := tk }) →
      (∀ h' tk m' news', Fr h₀ env.locals h' m' → News h₀ env.locals h' news' → J vs.length m' news' → Q .next { s₁ with heap := h', toks := tk }) → Z) → Z
theorem ForSrcL.intro {E : Value → Shared → Prop} {h₀ : Heap} {x : Str} {body : List Stmt} {Q : Flow → Shared → Prop} {s₁ : Shared} {r : Addr} {vs : List Value} {k : Nat} {m : Str → Option Value} {news : List (Addr × Obj)} (J : Nat → (Str → Option Value) → List (Addr × Obj) → Prop)
    (hh : A.handled = none) (F : Fr h₀ env.locals s₁.heap m) (N : News h₀ env.locals s₁.heap news) (hr : (r, W.listOf vs.toArray k) ∈ news) (h0 : J 0 m news)
    (step : ∀ i v I oI m₁ news₁ h tk, vs[i]? = some v → J i m₁ news₁ → (∀ p ∈ news₁, p.1 ≠ I) → (r, W.listOf vs.toArray k) ∈ news₁ → Fr h₀ env.locals h (fun y => if y = x then some v else m₁ y) → News h₀ env.locals h ((I, oI) :: news₁) →
        wpAny (model prog w) A (execs body env) (ForPost h₀ env.locals s₁ I oI (fun nw => (r, W.listOf vs.toArray k) ∈ nw) (J (i + 1)) (fun r s' => match r with | .ok f => Q f s' | .error e => cameBackBy (model prog w) A env E e s'))
          (notedBy (model prog w) A env fun e s' => cameBackBy (model prog w) A env E e s') { s₁ with heap := h, toks := tk })
    (fin : ∀ h' tk m' news', Fr h₀ env.locals h' m' → News h₀ env.locals h' news' → J vs.length m' news' → Q .next { s₁ with heap := h', toks := tk }) : ForSrcL prog w A E env h₀ x body Q (.ref r) s₁ :=
  fun _ k9 => k9 r vs k m news J rfl hh F N hr h0 step fin
theorem list_in {h : Heap} {r : Addr} {vs : List Value} {k : Nat} {news : List (Addr × Obj)} (N : News h₀ L h news) (hm : (r, W.listOf vs.toArray k) ∈ news) : h.IsList r vs.toArray := ⟨_, (N _ hm).1, rfl, _, rfl⟩
theorem For_L {x : Str} {px pos : Pos} {iter : Expr} {body : List Stmt} {Q : Flow → Shared → Prop} {m₀ : Str → Option Value} (_ : Fr h₀ env.locals s.heap m₀)
    (hx : env.kindOf x = some .local) (hp : (env.scope.kind == .class || (env.scope.kind == .module && env.locals != env.globals)) = false)
    (h : wpAny (model prog w) A (eval iter env) (ForSrcL prog w A E env h₀ x body Q) E s)
    (hs : ∀ x, foldedSetIterable iter env x = pure x := by intro _; rfl) :
    wpAny (model prog w) A (exec (.For (.Name x px) iter body [] pos) env) Q E s := by
  refine wpAny_For (wpAny_mono h (fun xv s₁ h₁ => ?_) fun _ _ e => e) hs
  refine h₁ _ ?_
  clear h₁
  intro r vs k m news J e9 hh F N hr h0 step fin
  subst e9
  have hl := list_in N hr
  have hlt : r < s₁.heap.objs.size := Heap.lt_size (N _ hr).1
  have hne : r ≠ s₁.heap.objs.size := Nat.ne_of_lt hlt
  refine wpAny_pyIter_list hl ?_
  have up : ∀ (o : Obj) b o', s₁.heap.get? b = some o' → (s₁.heap.push o).get? b = some o' := fun o b o' e => Heap.get?_push_of_some _ e
  have hL : env.locals ≠ r := fun q => (N _ hr).2.1 q.symm
  refine for_W (S := fun nw => (r, W.listOf vs.toArray k) ∈ nw) (Walks.list hh s₁.heap.objs.size r hne vs.toArray) (fun i h st => ⟨_, st.1.choose_spec.1⟩) (fun i h h' o nw st e e' kp N' hs' => ?_) hx hp (Nat.ne_of_lt F.ns.lt)
    (fun q => by rcases List.mem_cons.mp q with q | q; exact Nat.ne_of_lt F.ns.lt q; exact hL (List.mem_singleton.mp q)) (next_is_new F) (fun p hp => Nat.ne_of_lt (Heap.lt_size (N p hp).1))
    ⟨?_, ?_⟩ (F.keeps (up _)) (N.grown (up _)) hr J h0 ?_ ?_
  · obtain ⟨⟨o', q, r'⟩, _⟩ := st
    rw [e] at q; cases q
    exact ⟨⟨o, e', r'⟩, list_in N' hs'⟩
  · exact ⟨_, Heap.get?_push_size _ rfl, rfl, rfl⟩
  · exact list_in (N.grown (up _)) hr
  · intro i v oI m₁ news₁ h tk hlt hP hJ off hS F' N'
    exact step i v _ oI m₁ news₁ h tk (by simpa using hP) hJ off hS F' N'
  · intro h' tk m' news' F' N' hJ
    exact fin h' tk m' news' F' N' (by simpa using hJ)
end
/-! ## xs += ys, two lists of the ledger -/
theorem ia_slot : seqSlot? (.type "list") (dunderI "add") = pure (some (.builtin "list.__iadd__")) := PySem.seqSlot_of PySem.F.slot_list_iadd.lookup (by decide +kernel)
section
variable {prog : Program} {A : Around}
theorem iadd_list {D b : Addr} {xs ys : List Value} {n n2 : Nat} {news' : List (Addr × Obj)} {Q : Value → Shared → Prop} (F : Fr h₀ L s.heap m) (N : News h₀ L s.heap news) (hb : (b, W.listOf ys.toArray n2) ∈ news) (hne : ys.length ≠ 0)
    (U : Upd D (W.listOf xs.toArray n) (W.listOf (xs ++ ys).toArray (n + 1)) news news') (hz : xs.length + ys.length ≤ 16777215)
    (h : ∀ h', Fr h₀ L h' m → News h₀ L h' news' → Q (.ref D) { s with heap := h' }) : wpAny (model prog w) A (inplaceOp .Add (.ref D) (.ref b)) Q E s := by
  obtain ⟨pre, post, rfl, rfl, a, c⟩ := U.split
  have z := N (D, W.listOf xs.toArray n) (List.mem_append.mpr (.inr (.head _)))
  have hc : wpAny (model prog w) A (call (.builtin "list.__iadd__") [.ref D, .ref b]) Q E s := by
    refine call_meets PySem.F.slot_list_iadd ⟨_, z.1, rfl⟩ PySem.F.entry_list_iadd (PySem.F.args_list_iadd_2 _ _) (PySem.AutoSeq1.list___iadd___list_list_0 D xs.toArray n b ys.toArray n2 ?_ ?_ ?_) ⟨z.1, (N _ hb).1, h _ (F.change (Heap.SameBut.update ..) z.2.1 z.2.2) (kl_turn _ N a c ?_ ?_)⟩
    · intro q
      rw [Bool.and_eq_true] at q
      have := q.2
      simp only [List.size_toArray] at this
      unfold Builtin.List.listTooLong at this
      rw [decide_eq_true_eq, sizeLine_eq] at this
      omega
    · rw [List.size_toArray, sizeLine_eq]; omega
    · rw [List.size_toArray, List.size_toArray, sizeLine_eq]; omega
    · exact Array.toList_inj.mp (by simp)
    · simp only [List.size_toArray, List.length_append, ne_eq]
      omega
  have ha : s.TypeIs (.ref D) "list" := ⟨_, z.1, rfl⟩
  have hB : s.TypeIs (.ref b) "list" := ⟨_, (N _ hb).1, rfl⟩
  unfold inplaceOp
  refine wpAny_holding ?_
  have hfi : fillsInplaceSlot (.type "list") "add" (Operator.Add == .Add) = pure false := by
    unfold fillsInplaceSlot
    show (typeLookup (.type "list") (dunderI "add") >>= fun fi => pure (fi.isSome && !isSeqSlot fi)) = pure false
    rw [PySem.F.slot_list_iadd.lookup]
    kernel_rfl
  refine wpAny_bind (wpAny_typeOf ha (wpAny_bind (wpAny_of_eq hfi ?_)))
  show wpAny _ A (if false = true then _ else _) Q E s
  rw [if_neg Bool.false_ne_true]
  refine wpAny_bind (wpAny_binaryOp1_none (nm := "add") ha hB noFill_list_add ?_)
  refine wpAny_bind (wpAny_of_eq ia_slot ?_)
  exact wpAny_bind (wpAny_rule hc)
end
theorem layj_42 : True := by
  k_with "my:upd" => (first | k_upd | fail)
  k_with "my:iaddL" => (first | (k_here; (with_reducible show wpAny _ _ (inplaceOp Operator.Add (Value.ref _) (Value.ref _)) _ _ _); (refine' iadd_list (by k_asm) (by k_asm) (by first | exact List.mem_cons_self | k_mem) (by exact Nat.succ_ne_zero _) (by walk_at "my:upd") (by walk_at "my:roomL") ?_); intro h9 F9 N9; (try dsimp only); (try k_fold)) | fail)
  k_with "my:roomL" => (first | (first | assumption | omega | (simp only [List.length_cons, List.length_nil]; omega)) | fail)
  k_with "inplaceOp Add ref ref" => (first | (walk_at "my:iaddL") | fail)
  k_with "inplaceOp Add ref" => (first | (walk_at "my:iaddL") | fail)
  k_with "inplaceOp" => (first | (walk_at "my:iaddL") | fail)
  trivial
/-- the ledger bears a folder: its object, its list's address -/
def DirIn (P : Params) (news : List (Addr × Obj)) (x pl : Addr) : Prop := ∃ dx od e8 par, IsRec P od e8 pl 16 par ∧ (x, instObj 533 dx) ∈ news ∧ (dx, od) ∈ news
theorem DirIn.mono {P : Params} {news news' : List (Addr × Obj)} {x pl : Addr} (h : DirIn P news x pl) (hs : ∀ p ∈ news, p ∈ news') : DirIn P news' x pl :=
  let ⟨dx, od, e8, par, h⟩ := h
  ⟨dx, od, e8, par, h.1, hs _ h.2.1, hs _ h.2.2⟩
theorem DirIn.elim {P : Params} {news : List (Addr × Obj)} {x dl : Addr} {Z : Prop} (z : DirIn P news x dl)
    (k : ∀ dx e8 par u1 u2 u3 u4 u5 u6 u7 u8 u9 u10 u11 u12 u13 u14 u15 u16 u17 u18 r1 r2 r3 r4 r5 r6 r7 r8 r9 r10 r11 r12, (x, instObj 533 dx) ∈ news → (dx, recDict P u1 u2 u3 u4 u5 u6 u7 u8 u9 u10 u11 u12 u13 u14 u15 u16 u17 u18 e8 dl 16 par r1 r2 r3 r4 r5 r6 r7 r8 r9 r10 r11 r12) ∈ news → Z) : Z :=
  let ⟨_, _, _, _, h⟩ := z; h.1.elim fun _ _ _ _ _ _ _ _ _ _ _ _ _ _ _ _ _ _ _ _ _ _ _ _ _ _ _ _ _ _ e => k _ _ _ _ _ _ _ _ _ _ _ _ _ _ _ _ _ _ _ _ _ _ _ _ _ _ _ _ _ _ _ _ _ h.2.1 (e ▸ h.2.2)
structure Ent where
  x : Addr
  b : Array UInt8
  mark : Int
def EntOk (P : Params) (news : List (Addr × Obj)) (e : Ent) : Prop := EntIn P news e.x e.b e.mark ∧ NameOk e.b ∧ (e.mark = 8 ∨ e.mark = 16 ∨ e.mark = 32)
noncomputable def Ent.kind (e : Ent) : Nat := if ([Str.ofString ".", Str.ofString ".."].any fun x => x == nameT e.b) = true ∨ e.mark = 8 then 2 else if e.mark = 16 then 0 else 1
noncomputable def sel (k : Nat) (ents : List Ent) : List Value := (ents.filter fun e => e.kind == k).map fun e => .ref e.x
theorem m_raw {R : Result → Shared → Prop} {x pl : Addr} (B : Below A₀ base outer h₀) (F : Fr h₀ L s.heap m) (X : (KK w.params).In h₀) (N : News h₀ L s.heap news) (T : Top VW LO mean mg mb h₀) (hk : cs.kind = .function) (hd : dp + 16 < recursionLimit) (hu : un + 120 < cLine) (hx : DirIn w.params news x pl)
    (ret : ∀ h' tk', Fr h₀ L h' m → News h₀ L h' news → R (.ok (.ret (.ref pl))) { s with heap := h', toks := tk' }) :
    codeAny (model PR w) (ktrH hdl dp un gd cn cs L a ccd cl outer) (.call (.ref 459) ⟨[.ref x], []⟩) R s := by
  refine hx.elim ?_
  intro dx e8 par u1 u2 u3 u4 u5 u6 u7 u8 u9 u10 u11 u12 u13 u14 u15 u16 u17 u18 r1 r2 r3 r4 r5 r6 r7 r8 r9 r10 r11 r12 h1 h2
  walk_at "my:enter"
  k_steps
  all_goals (exact ret _ _ (by k_asm) (by walk_at "my:n"))
theorem layj_43 : True := by
  k_with "my:dir" => (first | (first | with_reducible assumption | (refine DirIn.mono (by with_reducible assumption) ?_; intro p9 hp9; walk_at "my:up")) | fail)
  k_with "call ref" => (first | (k_here; (with_reducible show wpAny _ _ (call (Value.ref 459) _ _) _ _ _); k_dflt (refine wpAny_call ?_; refine' m_raw (by k_asm) (by k_asm) (by k_asm) (by k_asm) (by k_asm) (by first | exact rfl | assumption) (by walk_at "my:room") (by walk_at "my:room") (by walk_at "my:dir") ?_; k_whole); intro h9 tk9 F9 N9; (try dsimp only); (try k_fold)) | fail)
  trivial
/-! ## for over a list of the ledger, an exception handled or not -/
section
open LCg
variable {prog : Program} {A : Around} {env : Env}
def ForSrcH (prog : Program) (w : World) (A : Around) (E : Value → Shared → Prop) (env : Env) (h₀ : Heap) (x : Str) (body : List Stmt) (Q : Flow → Shared → Prop) (xv : Value) (s₁ : Shared) : Prop :=
  ∀ Z : Prop, (∀ (r : Addr) (vs : List Value) (k : Nat) (m : Str → Option Value) (news : List (Addr × Obj)) (J : Nat → (Str → Option Value) → List (Addr × Obj) → Prop),
      xv = .ref r → Fr h₀ env.locals s₁.heap m → News h₀ env.locals s₁.heap news → HMem A.handled news → (r, W.listOf vs.toArray k) ∈ news → J 0 m news →
      (∀ i v I oI m₁ news₁ h tk, vs[i]? = some v → J i m₁ news₁ → (∀ p ∈ news₁, p.1 ≠ I) → (r, W.listOf vs.toArray k) ∈ news₁ ∧ HMem A.handled news₁ → Fr h₀ env.locals h (fun y => if y = x then some v else m₁ y) → News h₀ env.locals h ((I, oI) :: news₁) →
        wpAny (model prog w) A (execs body env) (ForPost h₀ env.locals s₁ I oI (fun nw => (r, W.listOf vs.toArray k) ∈ nw ∧ HMem A.handled nw) (J (i + 1)) (fun r s' => match r with | .ok f => Q f s' | .error e => cameBackBy (model prog w) A env E e s'))
          (notedBy (model prog w) A env fun e s' => cameBackBy (model prog w) A env E e s') { s₁ with heap := h, toks := tk }) →
      (∀ h' tk m' news', Fr h₀ env.locals h' m' → News h₀ env.locals h' news' → J vs.length m' news' → Q .next { s₁ with heap := h', toks := tk }) → Z) → Z
theorem ForSrcH.intro {E : Value → Shared → Prop} {h₀ : Heap} {x : Str} {body : List Stmt} {Q : Flow → Shared → Prop} {s₁ : Shared} {r : Addr} {vs : List Value} {k : Nat} {m : Str → Option Value} {news : List (Addr × Obj)} (J : Nat → (Str → Option Value) → List (Addr × Obj) → Prop)
    (F : Fr h₀ env.locals s₁.heap m) (N : News h₀ env.locals s₁.heap news) (hh : HMem A.handled news) (hr : (r, W.listOf vs.toArray k) ∈ news) (h0 : J 0 m news)
    (step : ∀ i v I oI m₁ news₁ h tk, vs[i]? = some v → J i m₁ news₁ → (∀ p ∈ news₁, p.1 ≠ I) → (r, W.listOf vs.toArray k) ∈ news₁ ∧ HMem A.handled news₁ → Fr h₀ env.locals h (fun y => if y = x then some v else m₁ y) → News h₀ env.locals h ((I, oI) :: news₁) →
        wpAny (model prog w) A (execs body env) (ForPost h₀ env.locals s₁ I oI (fun nw => (r, W.listOf vs.toArray k) ∈ nw ∧ HMem A.handled nw) (J (i + 1)) (fun r s' => match r with | .ok f => Q f s' | .error e => cameBackBy (model prog w) A env E e s'))
          (notedBy (model prog w) A env fun e s' => cameBackBy (model prog w) A env E e s') { s₁ with heap := h, toks := tk })
    (fin : ∀ h' tk m' news', Fr h₀ env.locals h' m' → News h₀ env.locals h' news' → J vs.length m' news' → Q .next { s₁ with heap := h', toks := tk }) : ForSrcH prog w A E env h₀ x body Q (.ref r) s₁ :=
  fun _ k9 => k9 r vs k m news J rfl F N hh hr h0 step fin
theorem For_H {x : Str} {px pos : Pos} {iter : Expr} {body : List Stmt} {Q : Flow → Shared → Prop} {m₀ : Str → Option Value} (_ : Fr h₀ env.locals s.heap m₀)
    (hx : env.kindOf x = some .local) (hp : (env.scope.kind == .class || (env.scope.kind == .module && env.locals != env.globals)) = false)
    (h : wpAny (model prog w) A (eval iter env) (ForSrcH prog w A E env h₀ x body Q) E s)
    (hs : ∀ x, foldedSetIterable iter env x = pure x := by intro _; rfl) :
    wpAny (model prog w) A (exec (.For (.Name x px) iter body [] pos) env) Q E s := by
  refine wpAny_For (wpAny_mono h (fun xv s₁ h₁ => ?_) fun _ _ e => e) hs
  refine h₁ _ ?_
  clear h₁
  intro r vs k m news J e9 F N hh hr h0 step fin
  subst e9
  have hl := list_in N hr
  have hlt : r < s₁.heap.objs.size := Heap.lt_size (N _ hr).1
  have hne : r ≠ s₁.heap.objs.size := Nat.ne_of_lt hlt
  have hxI : ∀ e, A.handled = some (.ref e) → e ≠ s₁.heap.objs.size := fun e he => by
    obtain ⟨oe, hoe⟩ := hh.at he
    exact Nat.ne_of_lt (Heap.lt_size (N _ hoe).1)
  refine wpAny_pyIter_list hl ?_
  have up : ∀ (o : Obj) b o', s₁.heap.get? b = some o' → (s₁.heap.push o).get? b = some o' := fun o b o' e => Heap.get?_push_of_some _ e
  have hL : env.locals ≠ r := fun q => (N _ hr).2.1 q.symm
  refine for_W (S := fun nw => (r, W.listOf vs.toArray k) ∈ nw ∧ HMem A.handled nw) (walks_listH s₁.heap.objs.size r hne hxI vs.toArray) (fun i h st => ⟨_, st.1.1.choose_spec.1⟩) (fun i h h' o nw st e e' kp N' hs' => ?_) hx hp (Nat.ne_of_lt F.ns.lt)
    (fun q => by
      rcases List.mem_cons.mp q with q | q
      · exact Nat.ne_of_lt F.ns.lt q
      rcases List.mem_cons.mp q with q | q
      · exact hL q
      · obtain ⟨oe, hoe⟩ := hh.at (hAddr_of q)
        exact (N _ hoe).2.1 rfl) (next_is_new F) (fun p hp => Nat.ne_of_lt (Heap.lt_size (N p hp).1))
    ⟨⟨?_, ?_⟩, (hh.ok N).keeps (up _)⟩ (F.keeps (up _)) (N.grown (up _)) ⟨hr, hh⟩ J h0 ?_ ?_
  · obtain ⟨⟨⟨o', q, r'⟩, _⟩, _⟩ := st
    rw [e] at q; cases q
    exact ⟨⟨⟨o, e', r'⟩, list_in N' hs'.1⟩, hs'.2.ok N'⟩
  · exact ⟨_, Heap.get?_push_size _ rfl, rfl, rfl⟩
  · exact list_in (N.grown (up _)) hr
  · intro i v oI m₁ news₁ h tk hlt hP hJ off hS F' N'
    exact step i v _ oI m₁ news₁ h tk (by simpa using hP) hJ off hS F' N'
  · intro h' tk m' news' F' N' hJ
    exact fin h' tk m' news' F' N' (by simpa using hJ)
end
theorem map_at {α β : Type} {f : α → β} {l : List α} {i : Nat} {v : β} (h : (l.map f)[i]? = some v) : ∃ a, l[i]? = some a ∧ f a = v := by
  rw [List.getElem?_map] at h
  cases q : l[i]? with
  | none => rw [q] at h; cases h
  | some a => rw [q] at h; exact ⟨a, rfl, Option.some.inj h⟩
theorem sel_one (k : Nat) (e : Ent) : sel k [e] = if (e.kind == k) = true then [Value.ref e.x] else [] := by
  unfold sel
  rw [List.filter_cons]
  split
  · rfl
  · rfl
theorem sel_app (k : Nat) (a b : List Ent) : sel k (a ++ b) = sel k a ++ sel k b := by
  unfold sel
  rw [List.filter_append, List.map_append]
theorem sel_len (k : Nat) {ents : List Ent} (h : ents.length ≤ 64) (i : Nat) : (sel k (ents.take i)).length ≤ 64 := by
  unfold sel
  rw [List.length_map]
  refine Nat.le_trans (List.length_filter_le _ _) ?_
  rw [List.length_take]
  omega
theorem sel_take {k : Nat} {ents : List Ent} {i : Nat} {e : Ent} (h : ents[i]? = some e) : sel k (ents.take (i + 1)) = sel k (ents.take i) ++ (if (e.kind == k) = true then [Value.ref e.x] else []) := by
  rw [List.take_add_one, h, sel_app]
  exact congrArg _ (sel_one k e)
theorem sel_in {k : Nat} {ents : List Ent} {i : Nat} {e : Ent} (h : ents[i]? = some e) (hk : e.kind = k) : sel k (ents.take (i + 1)) = sel k (ents.take i) ++ [Value.ref e.x] := by
  rw [sel_take h, if_pos (beq_iff_eq.mpr hk)]
theorem sel_out {k : Nat} {ents : List Ent} {i : Nat} {e : Ent} (h : ents[i]? = some e) {j : Nat} (hk : e.kind = j) (hj : j ≠ k) : sel k (ents.take (i + 1)) = sel k (ents.take i) := by
  rw [sel_take h, if_neg (fun q => hj (hk.symm.trans (beq_iff_eq.mp q))), List.append_nil]
theorem kind_s {e : Ent} (h : ([Str.ofString ".", Str.ofString ".."].any fun x => x == nameT e.b) = true) : e.kind = 2 := if_pos (.inl h)
theorem kind_v {e : Ent} (h : e.mark = 8) : e.kind = 2 := if_pos (.inr h)
theorem kind_n {e : Ent} (h : ([Str.ofString ".", Str.ofString ".."].any fun x => x == nameT e.b) = false) (h2 : e.mark ≠ 8) : ¬ (([Str.ofString ".", Str.ofString ".."].any fun x => x == nameT e.b) = true ∨ e.mark = 8) := by
  rintro (q | q)
  · rw [h] at q; cases q
  · exact h2 q
theorem kind_d {e : Ent} (h : ([Str.ofString ".", Str.ofString ".."].any fun x => x == nameT e.b) = false) (h2 : e.mark ≠ 8) (h3 : e.mark = 16) : e.kind = 0 := (if_neg (kind_n h h2)).trans (if_pos h3)
theorem kind_f {e : Ent} (h : ([Str.ofString ".", Str.ofString ".."].any fun x => x == nameT e.b) = false) (h2 : e.mark ≠ 8) (h3 : e.mark ≠ 16) : e.kind = 1 := (if_neg (kind_n h h2)).trans (if_neg h3)
theorem m_entries {R : Result → Shared → Prop} {x pl : Addr} {ents : List Ent} {k : Nat} (B : Below A₀ base outer h₀) (F : Fr h₀ L s.heap m) (X : (KK w.params).In h₀) (N : News h₀ L s.heap news) (T : Top VW LO mean mg mb h₀) (hk : cs.kind = .function) (hd : dp + 24 < recursionLimit) (hu : un + 200 < cLine) (hH : HMem hdl news) (hx : DirIn w.params news x pl) (hl : (pl, W.listOf (ents.map fun e => Value.ref e.x).toArray k) ∈ news) (he : ∀ e ∈ ents, EntOk w.params news e) (hz : Hd (ents.length ≤ 64))
    (ret : ∀ t di fi sp nt nd nf ns h' tk', Fr h₀ L h' m → News h₀ L h' ((t, { cls := .type "tuple", data := .seq #[.ref di, .ref fi, .ref sp] nt }) :: (sp, W.listOf (sel 2 ents).toArray ns) :: (fi, W.listOf (sel 1 ents).toArray nf) :: (di, W.listOf (sel 0 ents).toArray nd) :: news) → R (.ok (.ret (.ref t))) { s with heap := h', toks := tk' }) :
    codeAny (model PR w) (ktrH hdl dp un gd cn cs L a ccd cl outer) (.call (.ref 466) ⟨[.ref x], []⟩) R s := by
  have sm9 : SMk 9 := trivial
  refine hx.elim ?_
  intro dx e8 par u1 u2 u3 u4 u5 u6 u7 u8 u9 u10 u11 u12 u13 u14 u15 u16 u17 u18 r1 r2 r3 r4 r5 r6 r7 r8 r9 r10 r11 r12 h1 h2
  walk_at "my:enter"
  (k_with "exec For Name Call cons nil" => (first | ((have q9 : SMk 9 := (by with_reducible assumption)); clear q9; (first | (k_here; k_dflt (refine For_H (by k_asm) (by rfl) (by rfl) ?_)) | fail)) | fail))
  k_steps
  refine ForSrcH.intro (vs := ents.map fun e => Value.ref e.x) (fun i m₁ nw => ∃ di fi sp nd nf ns, nw = (sp, W.listOf (sel 2 (ents.take i)).toArray ns) :: (fi, W.listOf (sel 1 (ents.take i)).toArray nf) :: (di, W.listOf (sel 0 (ents.take i)).toArray nd) :: news ∧ (∀ p ∈ news, p.1 < di) ∧ di < fi ∧ fi < sp ∧ m₁ (Str.ofString "dirs") = some (.ref di) ∧ m₁ (Str.ofString "files") = some (.ref fi) ∧ m₁ (Str.ofString "specials") = some (.ref sp)) (by k_asm) (by k_asm) (by walk_at "my:hm") (by k_mem) ?_ ?_ ?_
  · refine ⟨_, _, _, _, _, _, rfl, ?_, ?_, ?_, ?_, ?_, ?_⟩
    · assumption
    · exact And.left (by assumption)
    · exact And.left (by assumption)
    · exact rfl
    · exact rfl
    · exact rfl
  · intro i9 v9 I9 oI9 m9 nw9 h9 tk9 hv9 hJ9 off9 hl9 F9 N9
    refine hideG fun Z hZ => ?_
    obtain ⟨di, fi, sp, nd, nf, ns, en9, lt9, l29, l39, q1, q2, q3⟩ := hJ9
    rw [en9] at N9 off9 hl9
    obtain ⟨hl9, hH9⟩ := hl9
    clear hH9
    obtain ⟨e9, he9, rfl⟩ := (map_at hv9)
    refine hZ ?_
    clear hZ Z
    have hE9 := he e9 (List.mem_of_getElem? he9)
    have hn9 := hE9.2.1
    have hm9' := hE9.2.2
    replace hE9 := hE9.1
    replace hm9' := Hd.mk hm9'
    refine hE9.elim ?_
    intro dx' dl' e8' d8' S' w1 w2 w3 w4 par' u1' u2' u3' u4' u5' u6' u7' u8' u9' u10' u11' u12' u13' u14' u15' u16' u17' u18' r1' r2' r3' r4' r5' r6' r7' r8' r9' r10' r11' r12' k1 k2 _ _ _
    have z0 := Hd.mk (sel_len 0 hz.out i9)
    have z1 := Hd.mk (sel_len 1 hz.out i9)
    have z2 := Hd.mk (sel_len 2 hz.out i9)
    (k_with "my:upd" => (first | ((have q9 : SMk 9 := (by with_reducible assumption)); clear q9; (first | (have y1 := n1.out; have y2 := n2.out; have y3 := n3.out; have y4 : @LT.lt Nat _ di fi := l29; have y5 : @LT.lt Nat _ fi sp := l39; k_upd) | fail)) | fail))
    (k_with "my:roomL" => (first | ((have q9 : SMk 9 := (by with_reducible assumption)); clear q9; (first | (have y0 := z0.out; have y1 := z1.out; have y2 := z2.out; simp only [List.length_cons, List.length_nil]; omega) | fail)) | fail))
    have n1 : Hd (@Ne Nat sp I9) := ⟨off9 _ (.head _)⟩
    have n2 : Hd (@Ne Nat fi I9) := ⟨off9 _ (.tail _ (.head _))⟩
    have n3 : Hd (@Ne Nat di I9) := ⟨off9 _ (.tail _ (.tail _ (.head _)))⟩
    have lt10 : ∀ p ∈ news, p.1 < fi := fun p hp => Nat.lt_trans (lt9 p hp) l29
    have lt11 : ∀ p ∈ news, p.1 < sp := fun p hp => Nat.lt_trans (lt10 p hp) l39
    have n4 : ∀ p ∈ news, p.1 ≠ I9 := fun p hp => off9 _ (.tail _ (.tail _ (.tail _ hp)))
    have e0 : fo [(Str.ofString "dirs", .ref di), (Str.ofString "files", .ref fi), (Str.ofString "specials", .ref sp)] m9 = m9 := fo_cons q1 (fo_cons q2 (fo_cons q3 fo_nil))
    replace F9 := e0.symm ▸ F9
    k_steps
    all_goals (rename News _ _ _ (_ :: _ :: _ :: _ :: _ :: news) => Nz)
    all_goals (refine ForEnd.mk (by k_asm) (fun p hp => Nz p (List.mem_cons_of_mem _ hp)) ?_ ?_ (xi6 di fi sp _ _ _ ⟨(by first
      | rw [sel_in he9 (kind_s (by with_reducible assumption)), sel_out he9 (kind_s (by with_reducible assumption)) (by decide), sel_out he9 (kind_s (by with_reducible assumption)) (by decide)]
      | rw [sel_in he9 (kind_v (by with_reducible assumption)), sel_out he9 (kind_v (by with_reducible assumption)) (by decide), sel_out he9 (kind_v (by with_reducible assumption)) (by decide)]
      | rw [sel_in he9 (kind_d (by with_reducible assumption) (by with_reducible assumption) (by with_reducible assumption)), sel_out he9 (kind_d (by with_reducible assumption) (by with_reducible assumption) (by with_reducible assumption)) (by decide), sel_out he9 (kind_d (by with_reducible assumption) (by with_reducible assumption) (by with_reducible assumption)) (by decide)]
      | rw [sel_in he9 (kind_f (by with_reducible assumption) (by with_reducible assumption) (by with_reducible assumption)), sel_out he9 (kind_f (by with_reducible assumption) (by with_reducible assumption) (by with_reducible assumption)) (by decide), sel_out he9 (kind_f (by with_reducible assumption) (by with_reducible assumption) (by with_reducible assumption)) (by decide)]), lt9, l29, l39, (by exact rfl), (by exact rfl), (by exact rfl)⟩))
    all_goals (first
      | (intro p hp
         rcases List.mem_cons.mp hp with rfl | hp
         · exact n1.out
         rcases List.mem_cons.mp hp with rfl | hp
         · exact n2.out
         rcases List.mem_cons.mp hp with rfl | hp
         · exact n3.out
         exact n4 p hp)
      | exact ⟨.tail _ (.tail _ (.tail _ hl)), HMem.mono hH (fun p hp => .tail _ (.tail _ (.tail _ hp)))⟩)
  · intro h9 tk9 m9 nw9 F9 N9 hJ9
    refine hideG fun Z hZ => ?_
    obtain ⟨di, fi, sp, nd, nf, ns, en9, lt9, l29, l39, q1, q2, q3⟩ := hJ9
    refine hZ ?_
    clear hZ Z
    rw [en9, List.length_map, List.take_length] at N9
    have e0 : fo [(Str.ofString "dirs", .ref di), (Str.ofString "files", .ref fi), (Str.ofString "specials", .ref sp)] m9 = m9 := fo_cons q1 (fo_cons q2 (fo_cons q3 fo_nil))
    replace F9 := e0.symm ▸ F9
    dsimp only
    k_steps
    all_goals (exact ret _ _ _ _ _ _ _ _ _ _ (by k_asm) (by walk_at "my:n"))
section
variable {prog : Program} {A : Around} {env : Env} {K : Frag} {p : Program} {loose : List Str}
    {R : Result → Shared → Prop} {name qual : Str} {params : Arguments} {body : List Stmt} {scope : Scope} {dV kV doc pm cdv ct oc : Value} {an od : Option Addr} {osl : Array (Option Value)} {f : Addr} {args : Args} {binds : List (Str × Value)}
/-- a def's call that touches a part of the ledger alone: the rest stands -/
theorem code_defF {own rest : List (Addr × Obj)} (hA : A.frames = some (env :: outer)) (hf : env.frame = some L) (hke : env.scope.kind = .function) (B : Below A₀ base outer h₀) (F : Fr h₀ L s.heap m) (X₀ : K.In h₀) (N : News h₀ L s.heap (own ++ rest)) (T : Top p loose mean mg mb h₀)
    (hdis : ∀ q ∈ rest, ∀ r ∈ own, q.1 ≠ r.1)
    (ho : K.lookup f = some ⟨oc, od, .func (fnOf name qual params body scope dV kV doc pm an cdv ct), osl⟩) (hcd : codeIn K cdv qual = true) (hroom : A.depth < recursionLimit)
    (hbind : BindsTo s (fnOf name qual params body scope dV kV doc pm an cdv ct) args binds) (hloc : ∀ y ∈ binds, scope.names.lookup y.1 = some .local)
    (h : ∀ g L' h₁, Fr h₀ L g m → Fr g L' h₁ (fun y => binds.reverse.lookup y) → News g L' h₁ own → Below A base (env :: outer) g → K.In g → Top p loose mean mg mb g →
      (∀ h', (∀ b o, g.get? b = some o → h'.get? b = some o) → ∀ own', News h₀ L h' own' → News h₀ L h' (own' ++ rest)) →
      wpAny (model prog w) (A.deeper (envOf qual scope L' f cdv)) (execs body (envOf qual scope L' f cdv))
        (fun fl s' => LeaveK h₀ L m g R (match fl with | .ret v => v | _ => .none) s')
        (fun e s' => wpAny (model prog w) (A.deeper (envOf qual scope L' f cdv)) (leaving (envOf qual scope L' f cdv) e) (fun _ s'' => R (.error e) s'') (fun e' s'' => R (.error e') s'') s')
        { s with heap := h₁, toks := s.toks + binds.length })
    (hco : scope.isCoroutine = false) (hgen : scope.isGenerator = false) (hk : scope.kind = .function)
    (hcell : ∀ x ∈ scope.names, x.2 ≠ .cell) : codeAny (model prog w) A (.call (.ref f) args) R s := by
  have N1 : News h₀ L s.heap own := fun q hq => N q (List.mem_append_left _ hq)
  have X := X₀.keeps F.keep
  obtain ⟨FG, BG, st, lv⟩ := groundX (R := R) B F N1 hA hf hke
  have hrest : ∀ q ∈ rest, (hideAll s.heap (own.map (·.1))).get? q.1 = some q.2 := fun q hq => hideAll_get _ (N q (List.mem_append_right _ hq)).1 fun hm => by
    obtain ⟨r, hr, e⟩ := List.mem_map.mp hm
    exact hdis q hq r hr e.symm
  refine codeAny_call_def (fd := fnOf name qual params body scope dV kV doc pm an cdv ct) (body := body) (binds := binds) hroom (X _ _ ho) rfl (T.nolimit.keeps F.keep) (codeRec_of X hcd) rfl hbind hcell hloc (fun h₁ hns hk₁ => ?_) hco hgen hk
  refine wpAny_mono (h _ s.heap.objs.size h₁ FG ⟨hns, fun b o e => hk₁ b o (of_hideAll _ e), Nat.le_of_eq (hideAll_size _ _)⟩
    (fun p hp => ⟨hk₁ _ _ (N1 p hp).1, Nat.ne_of_lt (Heap.lt_size (N1 p hp).1), hideAll_none _ (List.mem_map_of_mem hp)⟩) BG (X₀.keeps st) (T.keeps st) ?_) (fun fl s' hl => lv _ _ hl) fun _ _ y => y
  intro h' keep own' N' q hq
  revert q hq
  exact all_a (fun q hq => N' q hq) (fun q hq => ⟨keep _ _ (hrest q hq), (N q (List.mem_append_right _ hq)).2⟩)
end
theorem m_add {R : Result → Shared → Prop} {x dx pl e8 ex edx n8 dl : Addr} {od eod : Obj} {par : Value} {items : List Value} {n : Nat} {mk : Int} {rest : List (Addr × Obj)} (B : Below A₀ base outer h₀) (F : Fr h₀ L s.heap m) (X : (KK w.params).In h₀)
    (N : News h₀ L s.heap ([(ex, instObj 533 edx), (edx, eod), (pl, W.listOf items.toArray n), (x, instObj 533 dx), (dx, od)] ++ rest)) (T : Top VW LO mean mg mb h₀) (hk : cs.kind = .function) (hd : dp + 16 < recursionLimit) (hu : un + 120 < cLine)
    (l1 : @LT.lt Nat _ dx x) (l2 : @LT.lt Nat _ x pl) (l3 : @LT.lt Nat _ pl edx) (l4 : @LT.lt Nat _ edx ex) (hdis : ∀ q ∈ rest, q.1 ≠ ex ∧ q.1 ≠ edx ∧ q.1 ≠ pl ∧ q.1 ≠ x ∧ q.1 ≠ dx)
    (ho : IsRec w.params od e8 pl 16 par) (heo : IsRec w.params eod n8 dl mk .none) (hz : items.length + 1 ≤ 16777215)
    (ret : ∀ eod' h' tk', IsRec w.params eod' n8 dl mk (.ref x) → ∀ od', IsRec w.params od' e8 pl 16 par → Fr h₀ L h' m → News h₀ L h' ([(ex, instObj 533 edx), (edx, eod'), (pl, W.listOf (items ++ [Value.ref ex]).toArray (n + 1)), (x, instObj 533 dx), (dx, od')] ++ rest) → R (.ok (.ret .none)) { s with heap := h', toks := tk' }) :
    codeAny (model PR w) (ktrTop dp un gd cn cs L a ccd cl outer) (.call (.ref 495) ⟨[.ref x, .ref ex], []⟩) R s := by
  have sm10 : SMk 10 := trivial
  refine ho.elim ?_
  clear ho
  intro u1 u2 u3 u4 u5 u6 u7 u8 u9 u10 u11 u12 u13 u14 u15 u16 u17 u18 r1 r2 r3 r4 r5 r6 r7 r8 r9 r10 r11 r12 ho
  refine heo.elim ?_
  clear heo
  intro u1' u2' u3' u4' u5' u6' u7' u8' u9' u10' u11' u12' u13' u14' u15' u16' u17' u18' r1' r2' r3' r4' r5' r6' r7' r8' r9' r10' r11' r12' heo
  rw [ho, heo] at N
  clear ho heo
  (k_with "my:roomL" => (first | ((have q9 : SMk 10 := (by with_reducible assumption)); clear q9; (first | exact hz | fail)) | fail))
  refine' code_defF (by exact rfl) (by exact rfl) (by first | exact rfl | assumption) (by k_asm) (by k_asm) (by k_asm) (by k_asm) (by k_asm) ?hdis (by k_is) (by k_is) (by walk_at "my:room") (by first | exact BindsTo.of_eq rfl | exact binds_K (by k_in) rfl (by k_is) rfl rfl rfl) (by exact locs rfl) ?_ (by exact rfl) (by exact rfl) (by exact rfl) (by decide)
  case hdis =>
    intro q hq r hr
    obtain ⟨a1, a2, a3, a4, a5⟩ := hdis q hq
    rcases List.mem_cons.mp hr with rfl | hr
    · exact a1
    rcases List.mem_cons.mp hr with rfl | hr
    · exact a2
    rcases List.mem_cons.mp hr with rfl | hr
    · exact a3
    rcases List.mem_cons.mp hr with rfl | hr
    · exact a4
    rcases List.mem_cons.mp hr with rfl | hr
    · exact a5
    exact nomatch hr
  intro gA LA hA FG' F' N' B' X' T' hback
  (try dsimp only)
  (try k_lift B')
  (try k_fold)
  k_steps
  all_goals (rename Fr gA _ _ _ => Fk)
  all_goals (refine ret _ _ _ .mk _ .mk (by k_asm) (hback _ Fk.keep _ (by walk_at "my:n")))
/-! ## for and comprehension over bytes -/
section
open LCg
variable {prog : Program} {A : Around} {env : Env}
def ForSrcB (prog : Program) (w : World) (A : Around) (E : Value → Shared → Prop) (env : Env) (h₀ : Heap) (x : Str) (body : List Stmt) (Q : Flow → Shared → Prop) (xv : Value) (s₁ : Shared) : Prop :=
  ∀ Z : Prop, (∀ (b : Array UInt8) (tb : Tok) (m : Str → Option Value) (news : List (Addr × Obj)) (J : Nat → (Str → Option Value) → List (Addr × Obj) → Prop),
      xv = .bytes b tb → A.handled = none → Fr h₀ env.locals s₁.heap m → News h₀ env.locals s₁.heap news → J 0 m news →
      (∀ i (v : UInt8) (tv : Tok) I oI m₁ news₁ h tk, b[i]? = some v → J i m₁ news₁ → (∀ p ∈ news₁, p.1 ≠ I) → Fr h₀ env.locals h (fun y => if y = x then some (.int (v.toNat : Int) tv) else m₁ y) → News h₀ env.locals h ((I, oI) :: news₁) →
        wpAny (model prog w) A (execs body env) (ForPost h₀ env.locals s₁ I oI (fun _ => True) (J (i + 1)) (fun r s' => match r with | .ok f => Q f s' | .error e => cameBackBy (model prog w) A env E e s'))
          (notedBy (model prog w) A env fun e s' => cameBackBy (model prog w) A env E e s') { s₁ with heap := h, toks := tk }) →
      (∀ h' tk m' news', Fr h₀ env.locals h' m' → News h₀ env.locals h' news' → J b.size m' news' → Q .next { s₁ with heap := h', toks := tk }) → Z) → Z
theorem ForSrcB.intro {E : Value → Shared → Prop} {h₀ : Heap} {x : Str} {body : List Stmt} {Q : Flow → Shared → Prop} {s₁ : Shared} {b : Array UInt8} {tb : Tok} {m : Str → Option Value} {news : List (Addr × Obj)} (J : Nat → (Str → Option Value) → List (Addr × Obj) → Prop)
    (hh : A.handled = none) (F : Fr h₀ env.locals s₁.heap m) (N : News h₀ env.locals s₁.heap news) (h0 : J 0 m news)
    (step : ∀ i (v : UInt8) (tv : Tok) I oI m₁ news₁ h tk, b[i]? = some v → J i m₁ news₁ → (∀ p ∈ news₁, p.1 ≠ I) → Fr h₀ env.locals h (fun y => if y = x then some (.int (v.toNat : Int) tv) else m₁ y) → News h₀ env.locals h ((I, oI) :: news₁) →
        wpAny (model prog w) A (execs body env) (ForPost h₀ env.locals s₁ I oI (fun _ => True) (J (i + 1)) (fun r s' => match r with | .ok f => Q f s' | .error e => cameBackBy (model prog w) A env E e s'))
          (notedBy (model prog w) A env fun e s' => cameBackBy (model prog w) A env E e s') { s₁ with heap := h, toks := tk })
    (fin : ∀ h' tk m' news', Fr h₀ env.locals h' m' → News h₀ env.locals h' news' → J b.size m' news' → Q .next { s₁ with heap := h', toks := tk }) : ForSrcB prog w A E env h₀ x body Q (.bytes b tb) s₁ :=
  fun _ k9 => k9 b tb m news J rfl hh F N h0 step fin
theorem For_B {x : Str} {px pos : Pos} {iter : Expr} {body : List Stmt} {Q : Flow → Shared → Prop} {m₀ : Str → Option Value} (_ : Fr h₀ env.locals s.heap m₀)
    (hx : env.kindOf x = some .local) (hp : (env.scope.kind == .class || (env.scope.kind == .module && env.locals != env.globals)) = false)
    (h : wpAny (model prog w) A (eval iter env) (ForSrcB prog w A E env h₀ x body Q) E s)
    (hs : ∀ x, foldedSetIterable iter env x = pure x := by intro _; rfl) :
    wpAny (model prog w) A (exec (.For (.Name x px) iter body [] pos) env) Q E s := by
  refine wpAny_For (wpAny_mono h (fun xv s₁ h₁ => ?_) fun _ _ e => e) hs
  refine h₁ _ ?_
  clear h₁
  intro b tb m news J e9 hh F N h0 step fin
  subst e9
  refine KBw.pyIter_bytes ?_
  have up : ∀ (o : Obj) b o', s₁.heap.get? b = some o' → (s₁.heap.push o).get? b = some o' := fun o b o' e => Heap.get?_push_of_some _ e
  refine for_W (S := fun _ => True) (KBw.walks hh s₁.heap.objs.size b tb) (fun i h st => by obtain ⟨o, e, _⟩ := st; exact ⟨o, e⟩) (fun i h h' o nw st e e' _ _ _ => by obtain ⟨o', q, r⟩ := st; rw [e] at q; cases q; exact ⟨o, e', r⟩) hx hp (Nat.ne_of_lt F.ns.lt)
    (fun q => Nat.ne_of_lt F.ns.lt (List.mem_singleton.mp q)) (next_is_new F) (fun p hp => Nat.ne_of_lt (Heap.lt_size (N p hp).1))
    ⟨_, Heap.get?_push_size _ rfl, rfl, rfl⟩ (F.keeps (up _)) (N.grown (up _)) trivial J h0 ?_ ?_
  · intro i v oI m₁ news₁ h tk hlt hP hJ off _ F' N'
    obtain ⟨c, u, hc, rfl⟩ := hP
    exact step i c u _ oI m₁ news₁ h tk hc hJ off F' N'
  · intro h' tk m' news' F' N' hJ
    exact fin h' tk m' news' F' N' hJ
end
/-- the signs that a short name may not hold -/
def badC : List Int := [34, 42, 43, 44, 46, 47, 58, 59, 60, 61, 62, 63, 91, 92, 93, 124]
theorem enc_at {x : Str} (hc : x.cps.all (· < 128) = true) {i : Nat} {v : UInt8} (h : (encB x)[i]? = some v) : ∃ c ∈ x.cps.toList, v.toNat = c := by
  unfold encB at h
  rw [List.getElem?_toArray, List.map_map, List.getElem?_map] at h
  cases q : x.cps.toList[i]? with
  | none => rw [q] at h; cases h
  | some c =>
    rw [q] at h
    have hm := List.mem_of_getElem? q
    have h1 := of_decide_eq_true (Array.all_eq_true_iff_forall_mem.mp hc c (by simpa using hm))
    refine ⟨c, hm, ?_⟩
    have h2 := Option.some.inj h
    rw [← h2]
    show (((c : Int).toNat).toUInt8).toNat = c
    rw [Int.toNat_natCast]
    show c % 256 = c
    omega
theorem c_check {R : Result → Shared → Prop} {x : Str} {tx te : Tok} {e : Str} (B : Below A₀ base outer h₀) (F : Fr h₀ L s.heap m) (X : (KK w.params).In h₀) (N : News h₀ L s.heap news) (T : Top VW LO mean mg mb h₀) (hk : cs.kind = .function) (hd : dp + 8 < recursionLimit) (hu : un + 64 < cLine) (hx : x.length ≤ 64) (hc : x.cps.all (· < 128) = true)
    (hin : ∀ c ∈ x.cps.toList, (badC.any fun y => decide ((c : Int) = y)) = false)
    (ret : ∀ h' tk', Fr h₀ L h' m → News h₀ L h' news → R (.ok (.ret .none)) { s with heap := h', toks := tk' }) :
    codeAny (model PR w) (ktrTop dp un gd cn cs L a ccd cl outer) (.call (.ref 208) ⟨[.str x tx], [(Str.ofString "encoding", .str e te)]⟩) R s := by
  have sm11 : SMk 11 := trivial
  walk_at "my:enter"
  (k_with "exec For Name Call cons nil" => (first | ((have q9 : SMk 11 := (by with_reducible assumption)); clear q9; (first | (k_here; k_dflt (refine For_B (by k_asm) (by rfl) (by rfl) ?_)) | fail)) | fail))
  k_steps
  refine ForSrcB.intro (fun i m₁ nw => nw = news) rfl (by k_asm) (by k_asm) rfl ?_ ?_
  · intro i9 c9 t9 I9 oI9 m9 nw9 h9 tk9 hc9 hJ9 off9 F9 N9
    rw [hJ9] at N9 off9
    obtain ⟨c, hcm, hce⟩ := enc_at hc hc9
    have hbad := hin c hcm
    rw [← hce] at hbad
    k_steps
    · rename (_ || _) = true => w9
      exact absurd (hbad.symm.trans w9) (by decide)
    · exact ForEnd.mk F9 N9 off9 trivial rfl
  · intro h9 tk9 m9 nw9 F9 N9 hJ9
    rw [hJ9] at N9
    dsimp only
    k_steps
    all_goals (exact ret _ _ (by k_asm) (by walk_at "my:n"))
theorem layj_48 : True := by
  k_with "my:kw208" => (first | (k_here; k_dflt (refine' c_check (by k_asm) (by k_asm) (by k_asm) (by k_asm) (by k_asm) (by first | exact rfl | assumption) (by walk_at "my:room") (by walk_at "my:room") (by walk_at "my:le64") (by with_reducible assumption) (by with_reducible assumption) ?_; k_whole); intro h9 tk9 F9 N9; (try dsimp only); (try k_fold)) | fail)
  k_with "call ref" => (first | (k_here; (with_reducible show wpAny _ _ (call (Value.ref 208) _ _) _ _ _); k_dflt (refine wpAny_call ?_; walk_at "my:kw208")) | fail)
  trivial
theorem strSub_len (x : Str) (a b : Nat) : (Builtin.Str.strSub x a b).length ≤ x.length := by
  show (x.cps.extract a b).size ≤ x.cps.size
  rw [Array.size_extract]
  exact Nat.le_trans (Nat.sub_le _ _) (Nat.min_le_right _ _)
theorem stripBy_len (g : Nat → Bool) (l r : Bool) (x : Str) : (Txt.stripBy g l r x).length ≤ x.length := by
  unfold Txt.stripBy
  split
  · exact Nat.le_refl _
  · exact strSub_len x _ _
theorem strip_len (x : Str) : (Txt.strip x).length ≤ x.length := stripBy_len _ _ _ x
theorem rstrip_len (x : Str) : (Txt.rstrip x).length ≤ x.length := stripBy_len _ _ _ x
theorem T_ljust (x : Str) (i : Nat) : T (Txt.ljust x i) = T x ++ List.replicate (i - x.length) 32 := by
  unfold Txt.ljust
  by_cases h : (i : Int) ≤ x.length
  · rw [if_pos h]
    have : i - x.length = 0 := by omega
    rw [this, List.replicate_zero, List.append_nil]
  · rw [if_neg h, Int.toNat_natCast]
    show (Array.replicate 0 32 ++ x.cps ++ Array.replicate (i - x.length) 32).toList = _
    simp
theorem ljust_len (x : Str) (i : Nat) : (Txt.ljust x i).length = x.length + (i - x.length) := by
  rw [← T_len, T_ljust, List.length_append, T_len, List.length_replicate]
/-- a text that is a short name: what the check asks -/
def Conf (x : Str) : Prop := x.length ≤ 64 ∧ (∀ j : Nat, x.cps[j]? ≠ some 47) ∧ Txt.upper x = x ∧ ∀ a b, SplitIs x a b → a.length ≤ 8 ∧ (Txt.slice b (some 1) none).length ≤ 3 ∧
  a.cps.all (· < 128) = true ∧ (Txt.slice b (some 1) none).cps.all (· < 128) = true ∧ (∀ c ∈ a.cps.toList, (badC.any fun y => decide ((c : Int) = y)) = false) ∧ (∀ c ∈ (Txt.slice b (some 1) none).cps.toList, (badC.any fun y => decide ((c : Int) = y)) = false)
theorem c_conf {x e : Str} {tx te : Tok} (B : Below A₀ base outer h₀) (F : Fr h₀ L s.heap m) (X : (KK w.params).In h₀) (N : News h₀ L s.heap news) (T : Top VW LO mean mg mb h₀) (hk : cs.kind = .function) (hd : dp + 16 < recursionLimit) (hu : un + 120 < cLine) (hc : Conf x)
    (ret : ∀ h' tk', Fr h₀ L h' m → News h₀ L h' news → Q (.bool true) { s with heap := h', toks := tk' }) :
    wpAny (model PR w) (ktrTop dp un gd cn cs L a ccd cl outer) (call (.ref 219) [.str x tx, .str e te]) Q E s := by
  have sm12 : SMk 12 := trivial
  obtain ⟨hx, hns, hup, hsp⟩ := hc
  refine wpAny_call ?_
  walk_at "my:enter"
  (k_with "exec Try" => (first | ((have q9 : SMk 12 := (by with_reducible assumption)); clear q9; (first | (k_here; k_dflt (refine try_calm ?_); (try k_fold)) | fail)) | fail))
  (k_with "call builtin:str.upper" => (first | ((have q9 : SMk 12 := (by with_reducible assumption)); clear q9; (first | (k_here; refine SC.upper ?_; (try rw [hup])) | fail)) | fail))
  (k_with "call ref" => (first | ((have q9 : SMk 12 := (by with_reducible assumption)); clear q9; (first | (k_here; (with_reducible show wpAny _ _ (call (Value.ref 119) _ _) _ _ _); k_dflt (refine' c_split hx hns (by k_asm) (by k_asm) (by k_asm) (by k_asm) (by k_asm) (by first | exact rfl | assumption) (by walk_at "my:room") (by walk_at "my:room") ?_; k_whole); intro l9 a9 b9 t19 t29 h9 tk9 sp9 F9 N9; (obtain ⟨c1, c2, c3, c4, c5, c6⟩ := hsp _ _ sp9); (have y9 := (split_len hx sp9).1); (have z9 := (split_len hx sp9).2); (have hx1 := Nat.le_trans c1 (show 8 ≤ 64 by decide)); (have hx2 := Nat.le_trans c2 (show 3 ≤ 64 by decide)); (try dsimp only); (try k_fold)) | fail)) | fail))
  (k_with "call ref" => (first | ((have q9 : SMk 12 := (by with_reducible assumption)); clear q9; (first | (k_here; (with_reducible show wpAny _ _ (call (Value.ref 208) _ _) _ _ _); k_dflt (refine wpAny_call ?_; refine' c_check (by k_asm) (by k_asm) (by k_asm) (by k_asm) (by k_asm) (by first | exact rfl | assumption) (by walk_at "my:room") (by walk_at "my:room") (by with_reducible assumption) (by with_reducible assumption) (by with_reducible assumption) ?_; k_whole); intro h9 tk9 F9 N9; (try dsimp only); (try k_fold)) | fail)) | fail))
  (k_with "exec For Name List cons nil" => (first | ((have q9 : SMk 12 := (by with_reducible assumption)); clear q9; (first | (k_here; k_dflt (refine For_L (by k_asm) (by rfl) (by rfl) ?_)) | fail)) | fail))
  k_steps
  · rename (_ != _) = true => w9
    rw [hup, bne_self_eq_false] at w9
    cases w9
  refine ForSrcL.intro (fun i m₁ nw => (∀ p ∈ news, p ∈ nw) ∧ m₁ (Str.ofString "encoding") = some (.str e te)) rfl (by k_asm) (by k_asm) (by k_mem) ⟨fun p hp => List.mem_cons_of_mem _ (List.mem_cons_of_mem _ hp), by exact rfl⟩ ?_ ?_
  · intro i9 v9 I9 oI9 m9 nw9 h9 tk9 hv9 hJ9 off9 hl9 F9 N9
    obtain ⟨sub9, q1⟩ := hJ9
    have e0 : fo [(Str.ofString "encoding", .str e te)] m9 = m9 := fo_cons q1 fo_nil
    replace F9 := e0.symm ▸ F9
    have hv : v9 = .str a9 t19 ∨ ∃ t, v9 = .str (Txt.slice b9 (some 1) none) t := by
      match i9, hv9 with
      | 0, h => exact .inl (Option.some.inj h).symm
      | 1, h => exact .inr ⟨_, (Option.some.inj h).symm⟩
      | i + 2, h => cases h
    rcases hv with hv | ⟨tv, hv⟩
    all_goals (rw [hv] at F9)
    all_goals k_steps
    all_goals (exact ForEnd.mk (by k_asm) (by k_asm) off9 hl9 ⟨sub9, by exact rfl⟩)
  · intro h9 tk9 m9 nw9 F9 N9 hJ9
    replace N9 : News _ _ h9 news := fun p hp => N9 p (hJ9.1 p hp)
    dsimp only
    k_steps
    all_goals (exact ret _ _ (by k_asm) (by walk_at "my:n"))
theorem layj_50 : True := by
  k_with "call ref" => (first | (k_here; (with_reducible show wpAny _ _ (call (Value.ref 219) _ _) _ _ _); k_dflt (refine' c_conf (by k_asm) (by k_asm) (by k_asm) (by k_asm) (by k_asm) (by first | exact rfl | assumption) (by walk_at "my:room") (by walk_at "my:room") (by with_reducible assumption) ?_; k_whole); intro h9 tk9 F9 N9; (try dsimp only); (try k_fold)) | fail)
  trivial
noncomputable def padT (a b : Str) : Str := Txt.ljust (Txt.strip a) 8 ++ Txt.ljust (Txt.strip (Txt.slice b (some 1) none)) 3
theorem c_pad {x : Str} {tx : Tok} (B : Below A₀ base outer h₀) (F : Fr h₀ L s.heap m) (X : (KK w.params).In h₀) (N : News h₀ L s.heap news) (T : Top VW LO mean mg mb h₀) (hk : cs.kind = .function) (hd : dp + 16 < recursionLimit) (hu : un + 120 < cLine) (hx : x.length ≤ 64) (hns : ∀ j : Nat, x.cps[j]? ≠ some 47)
    (ret : ∀ a b, SplitIs x a b → ∀ t h' tk', Fr h₀ L h' m → News h₀ L h' news → Q (.str (padT a b) t) { s with heap := h', toks := tk' }) :
    wpAny (model PR w) (ktrTop dp un gd cn cs L a ccd cl outer) (call (.ref 229) [.str x tx]) Q E s := by
  have sm13 : SMk 13 := trivial
  walk_at "my:in"
  (k_with "call ref" => (first | ((have q9 : SMk 13 := (by with_reducible assumption)); clear q9; (first | (k_here; (with_reducible show wpAny _ _ (call (Value.ref 119) _ _) _ _ _); k_dflt (refine' c_split hx hns (by k_asm) (by k_asm) (by k_asm) (by k_asm) (by k_asm) (by first | exact rfl | assumption) (by walk_at "my:room") (by walk_at "my:room") ?_; k_whole); intro l9 a9 b9 t19 t29 h9 tk9 sp9 F9 N9; (obtain ⟨y9, z9⟩ := split_len hx sp9); (have x1 := Nat.le_trans (strip_len a9) y9); (have x2 := Nat.le_trans (_root_.PyProof.Txt.length_slice_le b9 (some 1) none) z9); (have x3 := Nat.le_trans (strip_len (Txt.slice b9 (some 1) none)) x2); (have x4 : (Txt.ljust (Txt.strip a9) 8).length ≤ 72 := by rw [show ((8 : Int)) = ((8 : Nat) : Int) from rfl, ljust_len]; omega); (have x5 : (Txt.ljust (Txt.strip (Txt.slice b9 (some 1) none)) 3).length ≤ 72 := by rw [show ((3 : Int)) = ((3 : Nat) : Int) from rfl, ljust_len]; omega); (try dsimp only); (try k_fold)) | fail)) | fail))
  k_steps
  all_goals (exact ret _ _ (by assumption) _ _ _ (by k_asm) (by walk_at "my:n"))
theorem layj_51 : True := by
  k_with "call ref" => (first | (k_here; (with_reducible show wpAny _ _ (call (Value.ref 229) _ _) _ _ _); k_dflt (refine' c_pad (by k_asm) (by k_asm) (by k_asm) (by k_asm) (by k_asm) (by first | exact rfl | assumption) (by walk_at "my:room") (by walk_at "my:room") (by with_reducible assumption) (by with_reducible assumption) ?_; k_whole); intro a9 b9 sp9 t9 h9 tk9 F9 N9; (try dsimp only); (try k_fold)) | fail)
  trivial
section
variable {M : Model} {A : Around} {env : Env}
theorem wpC_keep {α : Type} {vs : List Value} {t : Sem α} {Q : α → Shared → Prop} (h : wpC M A t Q s) : wpC M A (t.keep vs) Q s := fun Γ p hΓ c1 c2 => by rw [Sem.wp_keep]; exact h Γ p hΓ c1 c2
theorem wpC_operate {vs : List Value} {t : Sem Value} {Q : Value → Shared → Prop} (h : wpC M A t Q s) : wpC M A (operate vs t) Q s := fun Γ p hΓ c1 c2 => by rw [Sem.wp_operate]; exact h Γ p hΓ c1 c2
theorem wpC_bindName {x : Str} {v : Value} {Q : Unit → Shared → Prop} (h : wpC M A (storeName env x v) Q s) : wpC M A (bindName env x v) Q s := fun Γ p hΓ c1 c2 => by rw [Sem.wp_bindName]; exact h Γ p hΓ c1 c2
theorem wpC_Expr {e : PySem.Expr} {pos : Pos} {Q : Flow → Shared → Prop} (h : wpC M A (eval e env) (fun v s' => match v with | .ref _ => False | _ => Q .next s') s)
    (hi : interactive env = false := by rfl) (hs : swapsWith e none pos.line env = pure false := by rfl) : wpC M A (exec (.Expr e pos) env) Q s := by
  rw [exec_Expr env e pos hi hs]
  refine wpC_bind (wpC_standAt (wpC_bind (wpC_mono h fun v s' h' => ?_)))
  have hv : ∀ a, v ≠ .ref a := fun a hva => by subst hva; exact h'
  rw [dropValue_plain hv]
  refine wpC_pure ?_
  cases v <;> first | exact h' | exact (hv _ rfl).elim
theorem wpC_Assign_Name {x : Str} {pos' : Pos} {value : PySem.Expr} {pos : Pos} {Q : Flow → Shared → Prop} (h : wpC M A (eval value env) (fun v s₁ => wpC M A (storeName env x v) (fun _ => Q .next) s₁) s)
    (hs : swapsWith value (some (.Name x pos')) pos.line env = pure false := by rfl) : wpC M A (exec (.Assign [.Name x pos'] value pos) env) Q s := by
  rw [exec_Assign_Name env x pos' value pos hs]
  exact wpC_bind (wpC_standAt (wpC_bind (wpC_mono h fun v s₁ h₁ => wpC_bind (wpC_standAt (wpC_bind (wpC_mono (wpC_bindName h₁) fun _ s₂ h₂ => wpC_pure h₂))))))
theorem wpC_Call {func : PySem.Expr} {args : List PySem.Expr} {pos : Pos} {Q : Value → Shared → Prop}
    (h : wpAny M A (eval func env) (fun f s₁ => wpC M A (callWith pos f [] (backTo pos (starEach args env)) []) Q s₁) (fun _ _ => False) s)
    (he : eval (.Call func args [] pos) env = (do callWith pos (← eval func env) [] (backTo pos (starEach args env)) (backToKw pos (keywordEach [] env))) := by rfl) :
    wpC M A (eval (.Call func args [] pos) env) Q s := by
  rw [he]; exact wpC_bind (wpC_of h)
theorem wpC_method {o : PySem.Expr} {name : Str} {apos pos : Pos} {args : List PySem.Expr} {pl : Sem Bool} {Q : Value → Shared → Prop}
    (h : wpAny M A (eval o env) (fun ov s₁ => wpAny M A (getMethod ov name pl) (fun fx s₂ => wpC M A (callWith pos fx.1 fx.2 (backTo pos (starEach args env)) []) Q s₂) (fun _ _ => False) s₁) (fun _ _ => False) s)
    (he : eval (.Call (.Attribute o name apos) args [] pos) env = (do
      let ov ← eval o env
      standAt apos.atName
      let (f, first) ← holding [ov] (getMethod ov name pl)
      callWith pos f first (backTo pos (starEach args env)) (backToKw pos (keywordEach [] env))) := by rfl) :
    wpC M A (eval (.Call (.Attribute o name apos) args [] pos) env) Q s := by
  rw [he]
  exact wpC_bind (wpC_of (wpAny_mono h (fun ov s₁ h₁ => wpC_bind (wpC_standAt (wpC_bind (wpC_of (wpAny_holding (wpAny_mono h₁ (fun fx s₂ h₂ => h₂) fun _ _ x => x)))))) fun _ _ x => x))
theorem callWith_C {P : Heap → Prop} {pos : Pos} {f : Value} {first : List Value} {e : PySem.Expr} {rest : List PySem.Expr} {Q : Value → Shared → Prop}
    (hk : ∀ h, P h → ∃ k, (k = Keeper.frame ∨ k = Keeper.machine ∨ k = Keeper.boundFrame) ∧ Looks M h (keeperOf f) k)
    (h : wpAny M A (spliced (backTo pos (starEach (e :: rest) env))) (fun vs s₁ => P s₁.heap ∧ wpC M A (call f (first ++ vs)) Q s₁) (fun _ _ => False) s)
    (he : starEach (e :: rest) env = (false, eval e env) :: starEach rest env := by rfl) (hplain : (backTo pos (starEach rest env)).any (·.1) = false := by rfl) :
    wpC M A (callWith pos f first (backTo pos (starEach (e :: rest) env)) []) Q s := by
  rw [he] at h ⊢
  have hp : ((backTo pos ((false, eval e env) :: starEach rest env)).any (·.1) || ([] : List (Option Str × Sem Value)).any (·.1.isNone)) = false := by
    show ((false || (backTo pos (starEach rest env)).any (·.1)) || false) = false
    rw [hplain]; rfl
  unfold callWith
  refine wpC_bind (wpC_of (wpAny_holding (Calls.evalArgs_plain (wpAny_mono h (fun vs s₁ h₁ => ?_) fun _ _ x => x))))
  refine wpC_bind (wpC_standAt ?_)
  obtain ⟨k, hk', L⟩ := hk _ h₁.1
  simp only [hp]
  refine wpC_bind (wpC_of (L.here ?_))
  have tail : ∀ {t : Sem Value}, wpC M A t Q s₁ → wpC M A (t >>= fun r => holding [r] point >>= fun _ => pure r) Q s₁ :=
    fun ht => wpC_bind (wpC_mono ht fun r s₂ hr => wpC_bind (wpC_of (wpAny_holding (wpAny_point (wpC_pure hr)))))
  have marked (mk : Value) : wpC M A (callMarked mk f (first ++ vs) []) Q s₁ := by unfold callMarked; exact wpC_keep h₁.2
  rcases hk' with rfl | rfl | rfl <;> dsimp only <;> first | exact tail h₁.2 | (split <;> first | exact tail h₁.2 | exact tail (marked _))
end
theorem wp_execs_app {M : Model} {Γ : Ctx} {env : Env} {rest : List Stmt} {Q : Flow → Pos → Shared → Prop} {E : Value → Pos → Shared → Prop} : ∀ {xs : List Stmt} {p : Pos} {s : Shared},
    Sem.wp M Γ (execs xs env) (fun f p' s' => match f with | .next => Sem.wp M Γ (execs rest env) Q E p' s' | f => Q f p' s') E p s → Sem.wp M Γ (execs (xs ++ rest) env) Q E p s
  | [], p, s, h => h
  | x :: xs, p, s, h => by
    show Sem.wp M Γ (execs (x :: (xs ++ rest)) env) Q E p s
    rw [execs_cons, Sem.wp_bind'] at h ⊢
    refine Sem.wp_mono M Γ _ (fun f p' s' hf => ?_) (fun _ _ _ e => e) p s h
    cases f with
    | next => exact wp_execs_app hf
    | _ => exact hf
theorem wpC_execs_app {M : Model} {A : Around} {env : Env} {xs rest : List Stmt} {Q : Flow → Shared → Prop} (h : wpC M A (execs xs env) (fun f s' => match f with | .next => wpC M A (execs rest env) Q s' | f => Q f s') s) : wpC M A (execs (xs ++ rest) env) Q s := fun Γ p hΓ c1 c2 => by
  refine wp_execs_app (Sem.wp_mono M Γ _ (fun f p' s' hf => ?_) (fun _ _ _ e => e) p s (h Γ p hΓ c1 c2))
  cases f with
  | next => exact hf Γ p' hΓ c1 c2
  | _ => exact hf
noncomputable abbrev env8 (L : Addr) : Env := envOf (Str.ofString "EightDotThree.set_byte_name") f14m8S L 187 (.ref 186)
noncomputable abbrev sbn0 : Stmt := lit (nthSt f14m8B 0) _ (by conv => lhs; whnf)
theorem sbn_first {QF : Flow → Shared → Prop} {b : Array UInt8} {t : Tok} (hm : m (Str.ofString "name") = some (.bytes b t)) (B : Below A₀ base outer h₀) (F : Fr h₀ L s.heap m) (X : (KK w.params).In h₀) (N : News h₀ L s.heap news) (T : Top VW LO mean mg mb h₀) (hd : dp + 4 < recursionLimit) (hu : un + 32 < cLine)
    (ret : ∀ h' tk', Fr h₀ L h' m → News h₀ L h' news → QF .next { s with heap := h', toks := tk' }) :
    wpAny (model PR w) (ktrTop dp un gd (Str.ofString "EightDotThree.set_byte_name") f14m8S L 187 (.ref 186) [] outer) (exec sbn0 (env8 L)) QF E s := by
  dsimp only [sbn0, lit, env8]
  k_steps
  all_goals (exact ret _ _ (by k_asm) (by walk_at "my:n"))
noncomputable abbrev sbnR : List Stmt := lit (f14m8B.drop 2) _ (by conv => lhs; whnf)
theorem sbn_rest {QF : Flow → Shared → Prop} {b : Array UInt8} {e8 d8 ba : Addr} {v1 v2 v3 v4 : Tok} (hb : b.size = 11) {c : UInt8} (hc : b[0]? = some c) (hc0 : c ≠ 0) (hc1 : c ≠ 229) (hm : m (Str.ofString "name") = some (.ref ba)) (hm2 : m (Str.ofString "self") = some (.ref e8)) (B : Below A₀ base outer h₀) (F : Fr h₀ L s.heap m) (X : (KK w.params).In h₀) (N : News h₀ L s.heap ((ba, baObj b 0) :: (e8, instObj 243 d8) :: (d8, e8Dict0 w.params v1 v2 v3 v4) :: news)) (l1 : ∀ p ∈ news, p.1 < d8) (l2 : d8 < e8) (l3 : e8 < ba) (T : Top VW LO mean mg mb h₀) (hd : dp + 4 < recursionLimit) (hu : un + 32 < cLine)
    (ret : ∀ v1 v3 h' tk', Fr h₀ L h' m → News h₀ L h' ((ba, baObj b 0) :: (e8, instObj 243 d8) :: (d8, e8Dict w.params v1 v2 v3 v4 ba) :: news) → QF .next { s with heap := h', toks := tk' }) :
    wpAny (model PR w) (ktrTop dp un gd (Str.ofString "EightDotThree.set_byte_name") f14m8S L 187 (.ref 186) [] outer) (execs sbnR (env8 L)) QF E s := by
  have sm14 : SMk 14 := trivial
  have hi0 : (seqIndex? 0 b.size).bind (b[·]?) = some c := by rw [hb]; exact hc
  have hn0 : ¬ ((c.toNat : Int) = 0) := fun q => hc0 (UInt8.toNat_inj.mp (by show c.toNat = 0; omega))
  have hn1 : ¬ ((c.toNat : Int) = 229) := fun q => hc1 (UInt8.toNat_inj.mp (by show c.toNat = 229; omega))
  k_lt2 l2
  k_lt2 l3
  dsimp only [sbnR, lit, env8]
  (k_with "call builtin:len" => (first | ((have q9 : SMk 14 := (by with_reducible assumption)); clear q9; (first | (k_here; (with_reducible show wpAny _ _ (call (Value.builtin "len") [Value.ref _]) _ _ _); k_dflt (refine' ba_len (by exact News.get (by k_asm) (by k_mem)) (by rw [hb]; decide) ?_; k_whole); (try rw [hb])) | fail)) | fail))
  (k_with "subscriptTail" => (first | ((have q9 : SMk 14 := (by with_reducible assumption)); clear q9; (first | (k_here; (with_reducible show wpAny _ _ (subscriptTail _ _ (Value.ref _) (Value.int _ _)) _ _ _); k_dflt (refine' ba_item (by exact News.get (by k_asm) (by k_mem)) (by decide) hi0 ?_ (by with_unfolding_all rfl); k_whole)) | fail)) | fail))
  (k_with "subscriptTail Name Constant ref int" => (first | ((have q9 : SMk 14 := (by with_reducible assumption)); clear q9; (first | (k_here; (with_reducible show wpAny _ _ (subscriptTail _ _ (Value.ref _) (Value.int _ _)) _ _ _); k_dflt (refine' ba_item (by exact News.get (by k_asm) (by k_mem)) (by decide) hi0 ?_ (by with_unfolding_all rfl); k_whole)) | fail)) | fail))
  (k_with "exec Raise some none" => (first | ((have q9 : SMk 14 := (by with_reducible assumption)); clear q9; (first | (exfalso; exact absurd (by with_reducible assumption) hn0) | (exfalso; exact absurd (by with_reducible assumption) hn1) | fail)) | fail))
  k_steps
  all_goals (first | (exfalso; exact absurd (by with_reducible assumption) hn0) | (exfalso; exact absurd (by with_reducible assumption) hn1) | exact ret _ _ _ _ (by k_asm) (by walk_at "my:n"))
noncomputable abbrev sbn1 : Stmt := lit (nthSt f14m8B 1) _ (by conv => lhs; whnf)
theorem c_sbn {R : Flow → Shared → Prop} {b : Array UInt8} {t : Tok} {e8 d8 : Addr} {v1 v2 v3 v4 : Tok} (hb : b.size = 11) {c : UInt8} (hc : b[0]? = some c) (hc0 : c ≠ 0) (hc1 : c ≠ 229) (B : Below A₀ base outer h₀) (F : Fr h₀ L s.heap m) (X : (KK w.params).In h₀) (N : News h₀ L s.heap ((e8, instObj 243 d8) :: (d8, e8Dict0 w.params v1 v2 v3 v4) :: news)) (l1 : ∀ p ∈ news, p.1 < d8) (l2 : d8 < e8) (T : Top VW LO mean mg mb h₀) (hk : cs.kind = .function) (hd : dp + 8 < recursionLimit) (hu : un + 64 < cLine)
    (ret : ∀ ba v1 v3 h' tk', Fr h₀ L h' m → News h₀ L h' ((ba, baObj b 0) :: (e8, instObj 243 d8) :: (d8, e8Dict w.params v1 v2 v3 v4 ba) :: news) → e8 < ba → R (.ret .none) { s with heap := h', toks := tk' }) :
    codeC (model PR w) (ktrTop dp un gd cn cs L a ccd cl outer) (.call (.ref 187) ⟨[.ref e8, .bytes b t], []⟩) R s := by
  have hz : b.size ≤ sizeLine := by rw [hb]; decide
  refine' callC_in (binds := [(Str.ofString "self", .ref e8), (Str.ofString "name", .bytes b t)]) B F X N T ?kA ?kF ?kK ?k6 ?k7 ?k8 ?k9 ?kB ?_ ?c2 ?c3 ?c4 ?c5
  (case kA => exact rfl); (case kF => exact rfl); (case kK => exact hk)
  (case k6 => k_is); (case k7 => k_is); (case k8 => walk_at "my:room"); (case k9 => exact BindsTo.of_eq rfl); (case kB => exact locs rfl); (case c2 => exact rfl); (case c3 => exact rfl); (case c4 => exact rfl); (case c5 => decide)
  intro g L' h₁ FG F' N' B' X' T'
  show wpC _ _ (execs (sbn0 :: sbn1 :: sbnR) (env8 L')) _ _
  refine wpC_execs_cons (wpC_of ?_)
  refine' sbn_first (dp := dp + 1) (un := un + 3) (b := b) (t := t) rfl B' F' X' N' T' ?hd1 ?hu1 (fun h2 tk2 F2 N2 => ?_)
  (case hd1 => omega); (case hu1 => omega)
  dsimp only
  refine wpC_execs_cons ?_
  dsimp only [sbn1, lit]
  refine wpC_Assign_Name (wpC_Call ?_)
  k_steps
  refine callWith_C (P := fun _ => True) (fun h _ => ⟨.machine, .inr (.inl rfl), Looks.of_pure rfl⟩) ?_
  k_steps
  · trivial
  refine ba_callC hz fun h3 hS keep => ?_
  dsimp only
  rename Fr g L' h2 _ => F2
  rename News g L' h2 _ => N2
  have F3 := F2.keptAll keep
  have hns : g.get? h2.objs.size = none := by
    cases q : g.get? h2.objs.size with
    | none => rfl
    | some o => exact absurd (Heap.lt_size (F2.keep _ _ q)) (Nat.lt_irrefl _)
  have N3 : News g L' h3 ((h2.objs.size, baObj b 0) :: (e8, instObj 243 d8) :: (d8, e8Dict0 w.params v1 v2 v3 v4) :: news) := fun p hp => by
    rcases List.mem_cons.mp hp with rfl | hp
    · exact ⟨hS, fun e => absurd F2.ns.lt (by rw [← e]; exact Nat.lt_irrefl _), hns⟩
    · exact (N2.grown keep) p hp
  have l3 : e8 < h2.objs.size := Heap.lt_size (N2 _ (.head _)).1
  refine wpC_of (wpAny_storeName_local (by rfl) F3.ns (fun h4 hn4 hs4 => ?_))
  have F4 := F3.set hn4 hs4
  have N4 := N3.set hs4
  refine wpC_of ?_
  refine' sbn_rest (dp := dp + 1) (un := un + 3) hb hc hc0 hc1 ?hm ?hm2 B' F4 X' N4 l1 l2 l3 T' ?hd1 ?hu1 (fun v5 v6 h5 tk5 F5 N5 => ?_)
  (case hd1 => omega); (case hu1 => omega); (case hm => exact rfl); (case hm2 => exact rfl)
  exact ⟨_, _, _, F5, N5, fun F6 N6 => ret _ _ _ _ _ F6 N6 l3⟩
noncomputable abbrev env9 (L : Addr) : Env := envOf (Str.ofString "EightDotThree.set_str_name") f14m9S L 194 (.ref 193)
noncomputable abbrev ssn0 : Stmt := lit (nthSt f14m9B 0) _ (by conv => lhs; whnf)
noncomputable abbrev ssn1 : Stmt := lit (nthSt f14m9B 1) _ (by conv => lhs; whnf)
noncomputable abbrev ssn2 : Stmt := lit (nthSt f14m9B 2) _ (by conv => lhs; whnf)
noncomputable abbrev ssnR : List Stmt := lit (f14m9B.drop 3) _ (by conv => lhs; whnf)
theorem ssn_first {QF : Flow → Shared → Prop} {x : Str} {t : Tok} {e8 d8 : Addr} {v1 v2 v3 v4 : Tok} (hc : Conf x) (hm : m (Str.ofString "name") = some (.str x t)) (hm2 : m (Str.ofString "self") = some (.ref e8)) (B : Below A₀ base outer h₀) (F : Fr h₀ L s.heap m) (X : (KK w.params).In h₀) (N : News h₀ L s.heap ((e8, instObj 243 d8) :: (d8, e8Dict0 w.params v1 v2 v3 v4) :: news)) (T : Top VW LO mean mg mb h₀) (hd : dp + 24 < recursionLimit) (hu : un + 160 < cLine)
    (ret : ∀ h' tk', Fr h₀ L h' m → News h₀ L h' ((e8, instObj 243 d8) :: (d8, e8Dict0 w.params v1 v2 v3 v4) :: news) → QF .next { s with heap := h', toks := tk' }) :
    wpAny (model PR w) (ktrTop dp un gd (Str.ofString "EightDotThree.set_str_name") f14m9S L 194 (.ref 193) [] outer) (execs [ssn0, ssn1] (env9 L)) QF E s := by
  dsimp only [ssn0, ssn1, lit, env9]
  k_steps
  all_goals (exact ret _ _ (by k_asm) (by walk_at "my:n"))
theorem ssn_rest {QF : Flow → Shared → Prop} {b : Array UInt8} {e8 d8 ba : Addr} {v1 v2 v3 v4 : Tok} (hb : b.size = 11) {c : UInt8} (hc : b[0]? = some c) (hc1 : c ≠ 229) (hm : m (Str.ofString "name") = some (.ref ba)) (hm2 : m (Str.ofString "self") = some (.ref e8)) (B : Below A₀ base outer h₀) (F : Fr h₀ L s.heap m) (X : (KK w.params).In h₀) (N : News h₀ L s.heap ((ba, baObj b 0) :: (e8, instObj 243 d8) :: (d8, e8Dict0 w.params v1 v2 v3 v4) :: news)) (l1 : ∀ p ∈ news, p.1 < d8) (l2 : d8 < e8) (l3 : e8 < ba) (T : Top VW LO mean mg mb h₀) (hd : dp + 4 < recursionLimit) (hu : un + 32 < cLine)
    (ret : ∀ v1 v3 h' tk', Fr h₀ L h' m → News h₀ L h' ((ba, baObj b 0) :: (e8, instObj 243 d8) :: (d8, e8Dict w.params v1 v2 v3 v4 ba) :: news) → QF .next { s with heap := h', toks := tk' }) :
    wpAny (model PR w) (ktrTop dp un gd (Str.ofString "EightDotThree.set_str_name") f14m9S L 194 (.ref 193) [] outer) (execs ssnR (env9 L)) QF E s := by
  have sm15 : SMk 15 := trivial
  have hi0 : (seqIndex? 0 b.size).bind (b[·]?) = some c := by rw [hb]; exact hc
  have hn1 : ¬ ((c.toNat : Int) = 229) := fun q => hc1 (UInt8.toNat_inj.mp (by show c.toNat = 229; omega))
  k_lt2 l2
  k_lt2 l3
  dsimp only [ssnR, lit, env9]
  (k_with "subscriptTail" => (first | ((have q9 : SMk 15 := (by with_reducible assumption)); clear q9; (first | (k_here; (with_reducible show wpAny _ _ (subscriptTail _ _ (Value.ref _) (Value.int _ _)) _ _ _); k_dflt (refine' ba_item (by exact News.get (by k_asm) (by k_mem)) (by decide) hi0 ?_ (by with_unfolding_all rfl); k_whole)) | fail)) | fail))
  (k_with "setItem ref int" => (first | ((have q9 : SMk 15 := (by with_reducible assumption)); clear q9; (exfalso; exact absurd (by with_reducible assumption) hn1)) | fail))
  k_steps
  all_goals (exact ret _ _ _ _ (by k_asm) (by walk_at "my:n"))
theorem encB_size (x : Str) : (encB x).size = x.length := by
  unfold encB
  rw [List.size_toArray, List.length_map, List.length_map, Array.length_toList]; rfl
theorem encB_head {x : Str} (hx : x.length = 11) (hc : x.cps.all (· < 128) = true) : ∃ c, (encB x)[0]? = some c ∧ c.toNat < 128 := by
  have h0 : 0 < (encB x).size := by rw [encB_size, hx]; decide
  refine ⟨(encB x)[0], Array.getElem?_eq_getElem h0, ?_⟩
  obtain ⟨c, hm, e⟩ := enc_at hc (Array.getElem?_eq_getElem h0)
  rw [e]
  exact of_decide_eq_true (Array.all_eq_true_iff_forall_mem.mp hc c (by simpa using hm))
theorem news_new {g h₂ h₃ : Heap} {L : Addr} {m : Str → Option Value} {o : Obj} {news : List (Addr × Obj)} (F2 : Fr g L h₂ m) (N2 : News g L h₂ news) (keep : ∀ a o, h₂.get? a = some o → h₃.get? a = some o) (hS : h₃.get? h₂.objs.size = some o) : News g L h₃ ((h₂.objs.size, o) :: news) := fun p hp => by
  rcases List.mem_cons.mp hp with rfl | hp
  · exact ⟨hS, fun e => absurd F2.ns.lt (by rw [← e]; exact Nat.lt_irrefl _), next_is_new F2⟩
  · exact (N2.grown keep) p hp
theorem c_ssn {R : Flow → Shared → Prop} {x : Str} {t : Tok} {e8 d8 : Addr} {v1 v2 v3 v4 : Tok} (hc : Conf x) (hp : ∀ a b, SplitIs x a b → (padT a b).length = 11 ∧ (padT a b).cps.all (· < 128) = true) (B : Below A₀ base outer h₀) (F : Fr h₀ L s.heap m) (X : (KK w.params).In h₀) (N : News h₀ L s.heap ((e8, instObj 243 d8) :: (d8, e8Dict0 w.params v1 v2 v3 v4) :: news)) (l1 : ∀ p ∈ news, p.1 < d8) (l2 : d8 < e8) (T : Top VW LO mean mg mb h₀) (hk : cs.kind = .function) (hd : dp + 28 < recursionLimit) (hu : un + 180 < cLine)
    (ret : ∀ a b, SplitIs x a b → ∀ ba v1 v3 h' tk', Fr h₀ L h' m → News h₀ L h' ((ba, baObj (encB (padT a b)) 0) :: (e8, instObj 243 d8) :: (d8, e8Dict w.params v1 v2 v3 v4 ba) :: news) → e8 < ba → R (.ret .none) { s with heap := h', toks := tk' }) :
    codeC (model PR w) (ktrTop dp un gd cn cs L a ccd cl outer) (.call (.ref 194) ⟨[.ref e8, .str x t], []⟩) R s := by
  have sm16 : SMk 16 := trivial
  refine' callC_in (binds := [(Str.ofString "self", .ref e8), (Str.ofString "name", .str x t)]) B F X N T ?kA ?kF ?kK ?k6 ?k7 ?k8 ?k9 ?kB ?_ ?c2 ?c3 ?c4 ?c5
  (case kA => exact rfl); (case kF => exact rfl); (case kK => exact hk)
  (case k6 => k_is); (case k7 => k_is); (case k8 => walk_at "my:room"); (case k9 => exact BindsTo.of_eq rfl); (case kB => exact locs rfl); (case c2 => exact rfl); (case c3 => exact rfl); (case c4 => exact rfl); (case c5 => decide)
  intro g L' h₁ FG F' N' B' X' T'
  show wpC _ _ (execs (ssn0 :: ssn1 :: ssn2 :: ssnR) (env9 L')) _ _
  have hx := hc.1
  have hns := hc.2.1
  refine wpC_execs_app (xs := [ssn0, ssn1]) (wpC_of ?_)
  refine' ssn_first (dp := dp + 1) (un := un + 3) (x := x) (t := t) (e8 := e8) hc rfl rfl B' F' X' N' T' ?hd1 ?hu1 (fun h2 tk2 F2 N2 => ?_)
  (case hd1 => omega); (case hu1 => omega)
  dsimp only
  refine wpC_execs_cons ?_
  dsimp only [ssn2, lit]
  refine wpC_Assign_Name (wpC_Call ?_)
  (k_with "call ref" => (first | ((have q9 : SMk 16 := (by with_reducible assumption)); clear q9; (first | (k_here; (with_reducible show wpAny _ _ (call (Value.ref 229) _ _) _ _ _); k_dflt (refine' c_pad (by k_asm) (by k_asm) (by k_asm) (by k_asm) (by k_asm) (by first | exact rfl | assumption) (by walk_at "my:room") (by walk_at "my:room") hx hns ?_; k_whole); intro a9 b9 sp9 t9 h9 tk9 F9 N9; (obtain ⟨pl9, pa9⟩ := hp _ _ sp9); (have pz9 := Nat.le_trans (Nat.le_of_eq pl9) (show 11 ≤ 64 by decide)); (try dsimp only); (try k_fold)) | fail)) | fail))
  (k_with "call ref" => (first | ((have q9 : SMk 16 := (by with_reducible assumption)); clear q9; (first | (k_here; (with_reducible show wpAny _ _ (call (Value.ref 97) [Value.str _ _] _) _ _ _); k_dflt (refine' c_enc (by with_reducible assumption) (by with_reducible assumption) (by k_asm) (by k_asm) (by k_asm) (by k_asm) (by k_asm) (by first | exact rfl | assumption) (by walk_at "my:room") (by walk_at "my:room") ?_; k_whole); intro t9 h9 tk9 F9 N9; (try dsimp only); (try k_fold)) | fail)) | fail))
  k_steps
  refine callWith_C (P := fun _ => True) (fun h _ => ⟨.machine, .inr (.inl rfl), Looks.of_pure rfl⟩) ?_
  k_steps
  · trivial
  have bz : (encB (padT a9 b9)).size = 11 := (encB_size _).trans pl9
  obtain ⟨c9, hc9, hlt9⟩ := encB_head pl9 pa9
  have hz : (encB (padT a9 b9)).size ≤ sizeLine := by rw [bz]; decide
  refine ba_callC hz fun h3 hS keep => ?_
  dsimp only
  rename Fr g L' _ _ => F2
  rename News g L' _ _ => N2
  have F3 := F2.keptAll keep
  have hns3 := next_is_new F2
  have N3 := news_new (o := baObj (encB (padT a9 b9)) 0) F2 N2 keep hS
  have l3 := Heap.lt_size (N2 (e8, instObj 243 d8) (by walk_at "my:mem")).1
  refine wpC_of (wpAny_storeName_local (by rfl) F3.ns (fun h4 hn4 hs4 => ?_))
  have F4 := F3.set hn4 hs4
  have N4 := N3.set hs4
  refine wpC_of ?_
  refine' ssn_rest (dp := dp + 1) (un := un + 3) bz hc9 (fun q => by rw [q] at hlt9; exact absurd hlt9 (by decide)) ?hm ?hm2 B' F4 X' N4 l1 l2 l3 T' ?hd1 ?hu1 (fun v5 v6 h5 tk5 F5 N5 => ?_)
  (case hd1 => omega); (case hu1 => omega); (case hm => exact rfl); (case hm2 => exact rfl)
  exact ⟨_, _, _, F5, N5, fun F6 N6 => ret _ _ sp9 _ _ _ _ _ F6 N6 l3⟩
/-- the octets of a plain name, as a text -/
noncomputable def octT (a b : Str) : Str := Txt.slice (a ++ Str.ofString "        ") none (some 8) ++ Txt.slice (Txt.slice b (some 1) none ++ Str.ofString "   ") none (some 3)
open LCg in
theorem c_oct {a9 : Addr} {a b : Str} {ta tb : Tok} (B : Below A₀ base outer h₀) (F : Fr h₀ L s.heap m) (X : (KK w.params).In h₀) (N : News h₀ L s.heap news) (T : Top VW LO mean mg mb h₀) (hk : cs.kind = .function) (hd : dp + 8 < recursionLimit) (hu : un + 64 < cLine) (ha : a.length ≤ 64) (hb : b.length ≤ 64) (hC : Hd ((octT a b).cps.all (· < 128) = true))
    (ret : ∀ t h' tk', Fr h₀ L h' m → News h₀ L h' news → Q (.bytes (encB (octT a b)) t) { s with heap := h', toks := tk' }) :
    wpAny (model PR w) (ktrTop dp un gd cn cs L a9 ccd cl outer) (call (.ref 645) [.str a ta, .str b tb]) Q E s := by
  have sm17 : SMk 17 := trivial
  have e8 : (Str.ofString "        ").length = 8 := by decide +kernel
  have e3 : (Str.ofString "   ").length = 3 := by decide +kernel
  have g1 : (a ++ Str.ofString "        ").length ≤ 72 := by rw [Str.length_append, e8]; omega
  have g2 := Nat.le_trans (_root_.PyProof.Txt.length_slice_le (a ++ Str.ofString "        ") none (some 8)) g1
  have g3 := Nat.le_trans (_root_.PyProof.Txt.length_slice_le b (some 1) none) hb
  have g4 : (Txt.slice b (some 1) none ++ Str.ofString "   ").length ≤ 72 := by rw [Str.length_append, e3]; omega
  have g5 := Nat.le_trans (_root_.PyProof.Txt.length_slice_le (Txt.slice b (some 1) none ++ Str.ofString "   ") none (some 3)) g4
  have g6 : (octT a b).length ≤ 144 := by unfold octT; rw [Str.length_append]; omega
  obtain ⟨y, hy⟩ : ∃ y, y = octT a b := ⟨_, rfl⟩
  rw [← hy] at g6 hC ret
  have hz : y.cps.size ≤ sizeLine := by rw [PySem.sizeLine_eq]; exact Nat.le_trans g6 (by decide)
  refine wpAny_call ?_
  walk_at "my:enter"
  (k_with "eval ListComp" => (first | ((have q9 : SMk 17 := (by with_reducible assumption)); clear q9; (first | (k_here; k_dflt (refine ListComp_S (F₀ := by k_asm) (by with_unfolding_all rfl) (by decide) (by rfl) (by decide) (by rfl) ?_)) | fail)) | fail))
  (k_with "Exists" => (first | ((have q9 : SMk 17 := (by with_reducible assumption)); clear q9; (first | (refine ⟨y, _, _, (by rw [hy]; rfl), rfl, hC.out, by k_asm, by k_asm, hz, ?_⟩; rintro s₂ ⟨g9, rfl⟩; refine rest_signs (G := fun (c : Nat) v => ∃ t, v = .int (c : Int) t) ?_ ?_) | fail)) | fail))
  (k_with "CompEnd" => (first | ((have q9 : SMk 17 := (by with_reducible assumption)); clear q9; (first | exact compEnd (by k_asm) (by k_asm) (by assumption) trivial ⟨rfl, _, rfl⟩ | fail)) | fail))
  (k_with "call type:bytes" => (first | ((have q9 : SMk 17 := (by with_reducible assumption)); clear q9; (first | (k_here; (rename Rel2 _ _ _ => r9); refine bytes_K (by k_asm) (by k_asm) (isList_lst (by k_asm) (by k_mem)) (Rel2.ints r9) (signs_small hC.out) (Nat.le_trans (Nat.le_of_eq (Rel2.len r9).symm) hz) rfl ?_; intro h9 t9 k9 F9 N9 _) | fail)) | fail))
  k_steps
  all_goals (exact ret _ _ _ (by k_asm) (by walk_at "my:n"))
noncomputable abbrev env25 (L : Addr) : Env := envOf (Str.ofString "_law_laid") f25S L 659 (.ref 658)
noncomputable abbrev laid0 : Stmt := lit (nthSt f25B 0) _ (by conv => lhs; whnf)
noncomputable abbrev laid1 : Stmt := lit (nthSt f25B 1) _ (by conv => lhs; whnf)
noncomputable abbrev laid2 : Stmt := lit (nthSt f25B 2) _ (by conv => lhs; whnf)
theorem laid_first {QF : Flow → Shared → Prop} (B : Below A₀ base outer h₀) (F : Fr h₀ L s.heap m) (X : (KK w.params).In h₀) (N : News h₀ L s.heap news) (T : Top VW LO mean mg mb h₀) (hd : dp + 24 < recursionLimit) (hu : un + 160 < cLine)
    (ret : ∀ x dx v1 v2 v3 v4 h' tk', Fr h₀ L h' (fun y => if y = Str.ofString "short" then some (.ref x) else m y) → News h₀ L h' ((x, instObj 243 dx) :: (dx, e8Dict0 w.params v1 v2 v3 v4) :: news) → (∀ p ∈ news, p.1 < dx) → dx < x → QF .next { s with heap := h', toks := tk' }) :
    wpAny (model PR w) (ktrTop dp un gd (Str.ofString "_law_laid") f25S L 659 (.ref 658) [] outer) (exec laid0 (env25 L)) QF E s := by
  dsimp only [laid0, lit, env25]
  k_steps
  all_goals (exact ret _ _ _ _ _ _ _ _ (by k_asm) (by walk_at "my:n") (by assumption) (by assumption))
theorem laid_last {QF : Flow → Shared → Prop} {e8 : Addr} {mk : Int} {t : Tok} (hm1 : m (Str.ofString "short") = some (.ref e8)) (hm2 : m (Str.ofString "mark") = some (.int mk t)) (B : Below A₀ base outer h₀) (F : Fr h₀ L s.heap m) (X : (KK w.params).In h₀) (N : News h₀ L s.heap news) (T : Top VW LO mean mg mb h₀) (hd : dp + 48 < recursionLimit) (hu : un + 300 < cLine)
    (ret : ∀ x dx dl od h' tk', IsRec w.params od e8 dl mk .none → Fr h₀ L h' m → News h₀ L h' ((dl, W.listOf #[] 0) :: (x, instObj 533 dx) :: (dx, od) :: news) →
      (∀ p ∈ news, p.1 < dx) → dx < x → x < dl → QF (.ret (.ref x)) { s with heap := h', toks := tk' }) :
    wpAny (model PR w) (ktrTop dp un gd (Str.ofString "_law_laid") f25S L 659 (.ref 658) [] outer) (execs [laid2] (env25 L)) QF E s := by
  dsimp only [laid2, lit, env25]
  k_steps
  all_goals (exact ret _ _ _ _ _ _ (by assumption) (by k_asm) (by walk_at "my:n") (by assumption) (by assumption) (by assumption))
theorem c_laid {R : Flow → Shared → Prop} {b : Array UInt8} {tb t : Tok} {mk : Int} (hb : b.size = 11) {c : UInt8} (hc : b[0]? = some c) (hc0 : c ≠ 0) (hc1 : c ≠ 229) (B : Below A₀ base outer h₀) (F : Fr h₀ L s.heap m) (X : (KK w.params).In h₀) (N : News h₀ L s.heap news) (T : Top VW LO mean mg mb h₀) (hk : cs.kind = .function) (hd : dp + 56 < recursionLimit) (hu : un + 360 < cLine)
    (ret : ∀ x dx dl od e8 d8 ba v1 v2 v3 v4 h' tk', IsRec w.params od e8 dl mk .none → Fr h₀ L h' m → News h₀ L h' ((dl, W.listOf #[] 0) :: (x, instObj 533 dx) :: (dx, od) :: (ba, baObj b 0) :: (e8, instObj 243 d8) :: (d8, e8Dict w.params v1 v2 v3 v4 ba) :: news) →
      (∀ p ∈ news, p.1 < d8) → d8 < e8 → e8 < ba → ba < dx → dx < x → x < dl → R (.ret (.ref x)) { s with heap := h', toks := tk' }) :
    codeC (model PR w) (ktrTop dp un gd cn cs L a ccd cl outer) (.call (.ref 659) ⟨[.bytes b tb, .int mk t], []⟩) R s := by
  refine' callC_in (binds := [(Str.ofString "octets", .bytes b tb), (Str.ofString "mark", .int mk t)]) B F X N T ?kA ?kF ?kK ?k6 ?k7 ?k8 ?k9 ?kB ?_ ?c2 ?c3 ?c4 ?c5
  (case kA => exact rfl); (case kF => exact rfl); (case kK => exact hk)
  (case k6 => k_is); (case k7 => k_is); (case k8 => walk_at "my:room"); (case k9 => exact BindsTo.of_eq rfl); (case kB => exact locs rfl); (case c2 => exact rfl); (case c3 => exact rfl); (case c4 => exact rfl); (case c5 => decide)
  intro g L' h₁ FG F' N' B' X' T'
  show wpC _ _ (execs (laid0 :: laid1 :: [laid2]) (env25 L')) _ _
  refine wpC_execs_cons (wpC_of ?_)
  refine' laid_first (dp := dp + 1) (un := un + 3) B' F' X' N' T' ?hd1 ?hu1 (fun e8 d8 v1 v2 v3 v4 h2 tk2 F2 N2 lt2 l2 => ?_)
  (case hd1 => omega); (case hu1 => omega)
  dsimp only
  refine wpC_execs_cons ?_
  dsimp only [laid1, lit]
  refine wpC_Expr (wpC_method ?_)
  k_steps
  refine callWith_C (P := fun h => (KK w.params).In h) (fun h (hX : (KK w.params).In h) => ?hk) ?_
  case hk =>
    obtain ⟨k, hk, lk⟩ := keeps_K (K := KK w.params) (f := .ref 187) (by k_is) h hX
    exact ⟨k, hk, lk⟩
  k_steps
  refine wpC_call ?_
  refine' c_sbn (dp := dp + 1) (un := un + 3) hb hc hc0 hc1 B' (by k_asm) X' (by k_asm) lt2 l2 T' ?hk2 ?hd2 ?hu2 (fun ba v1' v3' h' tk' F3 N3 l3 => ?_)
  (case hk2 => exact rfl); (case hd2 => omega); (case hu2 => omega)
  refine wpC_of ?_
  refine' laid_last (dp := dp + 1) (un := un + 3) (mk := mk) (t := t) (e8 := e8) ?hm1 ?hm2 B' F3 X' N3 T' ?hd3 ?hu3 (fun x dx dl od h4 tk4 ir F4 N4 lt4 l4 l5 => ?_)
  (case hm1 => exact rfl); (case hm2 => exact rfl); (case hd3 => omega); (case hu3 => omega)
  exact ⟨_, _, _, F4, N4, fun F6 N6 => ret _ _ _ _ _ _ _ _ _ _ _ _ _ ir F6 N6 lt2 l2 l3 (lt4 _ (.head _)) l4 l5⟩
theorem c_heads (B : Below A₀ base outer h₀) (F : Fr h₀ L s.heap m) (X : (KK w.params).In h₀) (N : News h₀ L s.heap news) (T : Top VW LO mean mg mb h₀) (hk : cs.kind = .function) (hd : dp + 12 < recursionLimit) (hu : un + 90 < cLine)
    (ret : ∀ l t1 t2 t3 t4 t5 n h' tk', Fr h₀ L h' m → News h₀ L h' ((l, W.listOf [.str (Str.ofString "readme") t1, .str (Str.ofString "Read me") t2, .str (Str.ofString "ab") t3, .str (Str.ofString "") t4, .str (Str.ofString "Program") t5].toArray n) :: news) → (∀ p ∈ news, p.1 < l) → Q (.ref l) { s with heap := h', toks := tk' }) :
    wpAny (model PR w) (ktrTop dp un gd cn cs L a ccd cl outer) (call (.ref 619) []) Q E s := by
  refine wpAny_call ?_
  walk_at "my:enter"
  k_steps
  all_goals (exact ret _ _ _ _ _ _ _ _ _ (by k_asm) (by walk_at "my:n") (by assumption))
theorem c_row (B : Below A₀ base outer h₀) (F : Fr h₀ L s.heap m) (X : (KK w.params).In h₀) (N : News h₀ L s.heap news) (T : Top VW LO mean mg mb h₀) (hk : cs.kind = .function) (hd : dp + 12 < recursionLimit) (hu : un + 90 < cLine)
    (ret : ∀ l t1 t2 t3 t4 t5 t6 t7 t8 t9 t10 t11 t12 t13 t14 t15 t16 n h' tk', Fr h₀ L h' m → News h₀ L h' ((l, W.listOf [.str (Str.ofString "a") t1, .str (Str.ofString "B") t2, .str (Str.ofString "7") t3, .str (Str.ofString " ") t4, .str (Str.ofString ".") t5, .str (Str.ofString "+") t6, .str (Str.ofString "[") t7, .str (Str.ofString ";") t8, .str (Str.ofString "=") t9, .str (Str.ofString "~") t10, .str (Str.ofString ",") t11, .str (Str.ofString "]") t12, .str (Str.ofString "-") t13, .str (Str.ofString "_") t14, .str (Str.ofString "1") t15, .str (Str.ofString "z") t16].toArray n) :: news) → (∀ p ∈ news, p.1 < l) → Q (.ref l) { s with heap := h', toks := tk' }) :
    wpAny (model PR w) (ktrTop dp un gd cn cs L a ccd cl outer) (call (.ref 626) []) Q E s := by
  refine wpAny_call ?_
  walk_at "my:enter"
  k_steps
  all_goals (exact ret _ _ _ _ _ _ _ _ _ _ _ _ _ _ _ _ _ _ _ _ (by k_asm) (by walk_at "my:n") (by assumption))
/-- the signs that the law's texts hold -/
def signsC : List Nat := [97, 66, 55, 32, 46, 43, 91, 59, 61, 126, 44, 93, 45, 95, 49, 122, 114, 101, 100, 109, 82, 98, 80, 111, 103, 120, 108, 110]
structure Asc (x : Str) : Prop where
  out : ∀ c ∈ x.cps.toList, c ∈ signsC
theorem Asc.app {x y : Str} (h : Asc x) (k : Asc y) : Asc (x ++ y) := ⟨fun c hc => by
  rw [show (x ++ y).cps.toList = x.cps.toList ++ y.cps.toList from T_add x y] at hc
  rcases List.mem_append.mp hc with q | q
  · exact h.out c q
  · exact k.out c q⟩
theorem asc_of {x : Str} (h : (x.cps.toList.all fun c => signsC.contains c) = true) : Asc x := ⟨fun c hc => by
  have := List.all_eq_true.mp h c hc
  exact List.contains_iff_mem.mp this⟩
section
variable {prog : Program} {A : Around}
/-- an item of a list of texts, told by what holds of each -/
theorem pick_str {value slice : PySem.Expr} {l : Addr} {vs : List Value} {n : Nat} {k : Int} {u : Tok} {Q : Value → Shared → Prop} (P : Str → Prop) (N : News h₀ L s.heap news) (hm : (l, W.listOf vs.toArray n) ∈ news) (h0 : 0 ≤ k) (hhi : k < (vs.length : Int)) (hz : vs.length ≤ 64) (hP : ∀ v ∈ vs, ∃ y t, v = .str y t ∧ P y)
    (h : ∀ y t, P y → Q (.str y t) s) (hs : subscripted slice false (.ref l) (.int k u) = operate [.ref l, .int k u] (getItem (.ref l) (.int k u)) := by with_unfolding_all rfl) :
    wpAny (model prog w) A (subscriptTail value slice (.ref l) (.int k u)) Q E s := by
  have hl := list_in N hm
  have hlt : k.toNat < vs.length := by omega
  obtain ⟨y, t, e, p⟩ := hP _ (List.getElem_mem hlt)
  refine tail_any hl.typeIs slot_list_getitem.lookup (wpAny_getItem_list (x := .str y t) hl h0 (by omega) ?_ (h y t p)) hs
  rw [List.getElem?_toArray, List.getElem?_eq_getElem hlt, e]
end
/-- a text under way and what is left of its number -/
structure Wr (x : Str) (n : Int) : Prop where
  n0 : 0 ≤ n
  len : x.length ≤ 15
  lt : n < 17 ^ (15 - x.length)
  asc : Asc x
theorem wr0 {nn : Int} {y : Str} (h : y.length ≤ 7) (ha : Asc y) : Wr y ((nn.fdiv 10).fmod 6975757441) := by
  have e : (nn.fdiv 10).fmod 6975757441 = nn.fdiv 10 % 6975757441 := Int.fmod_eq_emod_of_nonneg _ (by decide)
  have h1 : (17 : Int) ^ 8 ≤ 17 ^ (15 - y.length) := by
    have : (17 : Nat) ^ 8 ≤ 17 ^ (15 - y.length) := Nat.pow_le_pow_right (by decide) (by omega)
    exact_mod_cast this
  have h2 : (17 : Int) ^ 8 = 6975757441 := by decide +kernel
  rw [h2] at h1
  rw [e]
  have h3 := Int.emod_lt_of_pos (nn.fdiv 10) (show (0 : Int) < 6975757441 by decide)
  exact ⟨Int.emod_nonneg _ (by decide), by omega, by omega, ha⟩
theorem wr_step {x : Str} {n : Int} (h : Wr x n) (hn : 0 < n) : x.length ≤ 14 ∧ n.fdiv 17 < 17 ^ (15 - (x.length + 1)) ∧ 0 ≤ n.fdiv 17 := by
  have e : n.fdiv 17 = n / 17 := Int.fdiv_eq_ediv_of_nonneg _ (by decide)
  have hl : x.length ≤ 14 := by
    by_cases q : x.length = 15
    · have := h.lt
      rw [q, Nat.sub_self] at this
      have h1 : (17 : Int) ^ 0 = 1 := rfl
      omega
    · have := h.len; omega
  refine ⟨hl, ?_, ?_⟩
  · rw [e]
    have h1 : 15 - x.length = (15 - (x.length + 1)) + 1 := (Nat.succ_pred_eq_of_pos (Nat.sub_pos_of_lt (Nat.lt_succ_of_le hl))).symm
    have h2 := h.lt
    rw [h1, Int.pow_succ] at h2
    exact Int.ediv_lt_of_lt_mul (by decide) h2
  · rw [e]; exact Int.ediv_nonneg h.n0 (by decide)
theorem wr1 {x y : Str} {n : Int} (h : Wr x n) (hn : 0 < n) (hy : y.length = 1) (ha : Asc y) : Wr (x ++ y) (n.fdiv 17) := by
  obtain ⟨a, b, c⟩ := wr_step h hn
  have e : (x ++ y).length = x.length + 1 := by rw [Str.length_append, hy]
  exact ⟨c, by omega, by rw [e]; exact b, h.asc.app ha⟩
theorem wr2 {x : Str} {n : Int} (h : Wr x n) (hn : 0 < n) : Wr x (n.fdiv 17) := by
  obtain ⟨a, b, c⟩ := wr_step h hn
  refine ⟨c, h.len, Int.lt_of_lt_of_le b ?_, h.asc⟩
  have : (17 : Nat) ^ (15 - (x.length + 1)) ≤ 17 ^ (15 - x.length) := Nat.pow_le_pow_right (by decide) (by omega)
  exact_mod_cast this
theorem wr_meas {n : Int} (hn : 0 < n) : (n.fdiv 17).toNat < n.toNat := by
  have e : n.fdiv 17 = n / 17 := Int.fdiv_eq_ediv_of_nonneg _ (by decide)
  rw [e]; omega
theorem fmod_bd (n : Int) : 0 ≤ n.fmod 17 ∧ n.fmod 17 < 17 := by
  rw [Int.fmod_eq_emod_of_nonneg _ (by decide)]
  exact ⟨Int.emod_nonneg _ (by decide), Int.emod_lt_of_pos _ (by decide)⟩
theorem row_lo {n : Int} (h : n.fmod 17 ≠ 0) : 0 ≤ n.fmod 17 - 1 := by
  have := fmod_bd n
  omega
theorem row_hi {n : Int} : n.fmod 17 - 1 < 16 := by
  have := fmod_bd n
  omega
theorem fmod_bd5 (n : Int) : 0 ≤ n.fmod 5 ∧ n.fmod 5 < 5 := by
  rw [Int.fmod_eq_emod_of_nonneg _ (by decide)]
  exact ⟨Int.emod_nonneg _ (by decide), Int.emod_lt_of_pos _ (by decide)⟩
theorem heads_ok {t1 t2 t3 t4 t5 : Tok} : ∀ v ∈ ([.str (Str.ofString "readme") t1, .str (Str.ofString "Read me") t2, .str (Str.ofString "ab") t3, .str (Str.ofString "") t4, .str (Str.ofString "Program") t5] : List Value), ∃ y t, v = .str y t ∧ (y.length ≤ 7 ∧ Asc y) := by
  iterate 5 (refine all_c ⟨_, _, rfl, by decide +kernel, asc_of (by decide +kernel)⟩ ?_)
  exact all_n
theorem row_ok {t1 t2 t3 t4 t5 t6 t7 t8 t9 t10 t11 t12 t13 t14 t15 t16 : Tok} : ∀ v ∈ ([.str (Str.ofString "a") t1, .str (Str.ofString "B") t2, .str (Str.ofString "7") t3, .str (Str.ofString " ") t4, .str (Str.ofString ".") t5, .str (Str.ofString "+") t6, .str (Str.ofString "[") t7, .str (Str.ofString ";") t8, .str (Str.ofString "=") t9, .str (Str.ofString "~") t10, .str (Str.ofString ",") t11, .str (Str.ofString "]") t12, .str (Str.ofString "-") t13, .str (Str.ofString "_") t14, .str (Str.ofString "1") t15, .str (Str.ofString "z") t16] : List Value), ∃ y t, v = .str y t ∧ (y.length = 1 ∧ Asc y) := by
  iterate 16 (refine all_c ⟨_, _, rfl, by decide +kernel, asc_of (by decide +kernel)⟩ ?_)
  exact all_n
theorem c_written {nn : Int} {tn : Tok} (B : Below A₀ base outer h₀) (F : Fr h₀ L s.heap m) (X : (KK w.params).In h₀) (N0 : News h₀ L s.heap news) (T : Top VW LO mean mg mb h₀) (hk : cs.kind = .function) (hd : dp + 24 < recursionLimit) (hu : un + 160 < cLine)
    (ret : ∀ x t h' tk', x.length ≤ 15 → Asc x → Fr h₀ L h' m → News h₀ L h' news → Q (.str x t) { s with heap := h', toks := tk' }) :
    wpAny (model PR w) (ktrTop dp un gd cn cs L a ccd cl outer) (call (.ref 633) [.int nn tn]) Q E s := by
  have sm18 : SMk 18 := trivial
  refine wpAny_call ?_
  walk_at "my:enter"
  (k_with "call ref" => (first | ((have q9 : SMk 18 := (by with_reducible assumption)); clear q9; (first | (k_here; (with_reducible show wpAny _ _ (call (Value.ref 619) _ _) _ _ _); k_dflt (refine' c_heads (by k_asm) (by k_asm) (by k_asm) (by k_asm) (by k_asm) (by first | exact rfl | assumption) (by walk_at "my:room") (by walk_at "my:room") ?_; k_whole); intro l9 t1 t2 t3 t4 t5 n9 h9 tk9 F9 N9 lt9; (try k_lt lt9); (try dsimp only); (try k_fold)) | fail)) | fail))
  (k_with "call ref" => (first | ((have q9 : SMk 18 := (by with_reducible assumption)); clear q9; (first | (k_here; (with_reducible show wpAny _ _ (call (Value.ref 626) _ _) _ _ _); k_dflt (refine' c_row (by k_asm) (by k_asm) (by k_asm) (by k_asm) (by k_asm) (by first | exact rfl | assumption) (by walk_at "my:room") (by walk_at "my:room") ?_; k_whole); intro l9 t1 t2 t3 t4 t5 t6 t7 t8 t9 t10 t11 t12 t13 t14 t15 t16 n9 h9 tk9 F9 N9 lt9; (try k_lt lt9); (try dsimp only); (try k_fold)) | fail)) | fail))
  (k_with "my:pickH" => (first | ((have q9 : SMk 18 := (by with_reducible assumption)); clear q9; (first | (k_here; (with_reducible show wpAny _ _ (subscriptTail _ _ (Value.ref _) (Value.int (Int.fmod _ 5) _)) _ _ _); k_dflt (refine' pick_str (fun y => y.length ≤ 7 ∧ Asc y) (by k_asm) (by k_mem) (by exact (fmod_bd5 _).1) (by exact (fmod_bd5 _).2) (by exact Nat.le_of_ble_eq_true rfl) (by exact heads_ok) ?_ (by with_unfolding_all rfl); k_whole); intro y9 ty9 py9; (try dsimp only); (try k_fold)) | fail)) | fail))
  (k_with "my:pickR" => (first | ((have q9 : SMk 18 := (by with_reducible assumption)); clear q9; (first | (k_here; (with_reducible show wpAny _ _ (subscriptTail _ _ (Value.ref _) (Value.int (Int.fmod _ 17 - 1) _)) _ _ _); k_dflt (refine' pick_str (fun y => y.length = 1 ∧ Asc y) (by k_asm) (by k_mem) (by exact row_lo (by assumption)) (by exact row_hi) (by exact Nat.le_of_ble_eq_true rfl) (by exact row_ok) ?_ (by with_unfolding_all rfl); k_whole); intro y9 ty9 py9; (try dsimp only); (try k_fold)) | fail)) | fail))
  (k_with "subscriptTail" => (first | ((have q9 : SMk 18 := (by with_reducible assumption)); clear q9; (first | (walk_at "my:pickH") | (walk_at "my:pickR") | fail)) | fail))
  (k_with "state" => (first | ((have q9 : SMk 18 := (by with_reducible assumption)); clear q9; first
    | exact wr0 (by assumption : _ ∧ _).1 (by assumption : _ ∧ _).2
    | exact wr1 (by assumption) (by assumption) (by assumption : _ ∧ _).1 (by assumption : _ ∧ _).2
    | exact wr2 (by assumption) (by assumption)) | fail))
  (k_with "measure" => (first | ((have q9 : SMk 18 := (by with_reducible assumption)); clear q9; exact wr_meas (by assumption)) | fail))
  (k_with "binaryOp Add str str" => (first | ((have q9 : SMk 18 := (by with_reducible assumption)); clear q9; (first | (k_here; (have zl9 := Wr.len (by with_reducible assumption)); (have zy9 := And.left (a := _ = 1) (by with_reducible assumption)); refine PyProof.Rows.add_str ?_ (by rw [PySem.sizeLine_eq]; omega); intro t9 k9; (try dsimp only); (try k_fold)) | fail)) | fail))
  (k_with "exec While Compare cons nil" => (first | ((have q9 : SMk 18 := (by with_reducible assumption)); clear q9; k_while (fun script x n => Wr x n) (fun script x n => n.toNat) "text" "left") | fail))
  k_steps
  all_goals (exact ret _ _ _ _ (Wr.len (by assumption)) (Wr.asc (by assumption)) (by k_asm) (by walk_at "my:n"))
theorem texts_at {l : List (Str × Tok)} {L : List Str} {dg : Str} (e : l.map (·.1) = L) (hD : L[L.length - 1]? = some dg) : l.length = L.length ∧ ∃ t, (strValues l)[l.length - 1]? = some (.str dg t) := by
  have hl : l.length = L.length := by rw [← e, List.length_map]
  refine ⟨hl, ?_⟩
  rw [← hl, ← e, List.getElem?_map] at hD
  cases q : l[l.length - 1]? with
  | none => rw [q] at hD; cases hD
  | some p =>
    rw [q] at hD
    refine ⟨p.2, ?_⟩
    show (l.map fun p => Value.str p.1 p.2)[l.length - 1]? = _
    rw [List.getElem?_map, q]
    show some (Value.str p.1 p.2) = _
    rw [show p.1 = dg from Option.some.inj hD]
theorem item_K {prog : Program} {A : Around} {value slice : PySem.Expr} {l : Addr} {vs : List Value} {n : Nat} {k : Int} {u : Tok} {v : Value} {Q : Value → Shared → Prop} (N : News h₀ L s.heap news) (hm : (l, W.listOf vs.toArray n) ∈ news) (h0 : 0 ≤ k) (hhi : k < 2 ^ 63) (hv : vs[k.toNat]? = some v)
    (h : Q v s) (hs : subscripted slice false (.ref l) (.int k u) = operate [.ref l, .int k u] (getItem (.ref l) (.int k u)) := by with_unfolding_all rfl) :
    wpAny (model prog w) A (subscriptTail value slice (.ref l) (.int k u)) Q E s :=
  have hl := list_in N hm
  tail_any hl.typeIs slot_list_getitem.lookup (wpAny_getItem_list (x := v) hl h0 hhi (by rw [List.getElem?_toArray]; exact hv) h) hs
theorem c_num {x b y fr dg : Str} {tx tb ty : Tok} {l : List Str} (B : Below A₀ base outer h₀) (F : Fr h₀ L s.heap m) (X : (KK w.params).In h₀) (N : News h₀ L s.heap news) (T : Top VW LO mean mg mb h₀) (hk : cs.kind = .function) (hd : dp + 12 < recursionLimit) (hu : un + 90 < cLine)
    (hx : x.length ≤ 64) (hy : y.length ≤ x.length) (hE : Txt.endswith x y = true) (hF : Txt.slice x none (some ((x.length : Int) - (y.length : Int))) = fr) (hfl : fr.length ≤ 8) (hS : Txt.split fr (Str.ofString "~") = l) (hl : 2 ≤ l.length) (hll : l.length ≤ 64) (hB : Txt.slice fr none (some (b.length : Int)) = b) (hbl : b.length ≤ 64)
    (hD : l[l.length - 1]? = some dg) (h0 : 1 ≤ dg.length) (hdl : dg.length ≤ 8) (h1 : (Txt.item dg 0 == Str.ofString "0") = false) (hG : Hd ((signs dg).filter (fun a => !!(Builtin.Str.occurrences (Str.ofString "0123456789") a 0 (Str.ofString "0123456789").length 1).isEmpty) = []))
    (ret : ∀ h' tk', Fr h₀ L h' m → News h₀ L h' news → Q (.bool true) { s with heap := h', toks := tk' }) :
    wpAny (model PR w) (ktrTop dp un gd cn cs L a ccd cl outer) (call (.ref 664) [.str x tx, .str b tb, .str y ty]) Q E s := by
  have sm19 : SMk 19 := trivial
  refine wpAny_call ?_
  walk_at "my:enter"
  have hz : fr.length + 2 ≤ sizeLine := by rw [PySem.sizeLine_eq]; omega
  (k_with "call builtin:str.endswith" => (first | ((have q9 : SMk 19 := (by with_reducible assumption)); clear q9; (first | (k_here; refine SC.endswith ?_; (try rw [hE])) | fail)) | fail))
  (k_with "call builtin:str.split" => (first | ((have q9 : SMk 19 := (by with_reducible assumption)); clear q9; (first | (k_here; refine splitN1 (by k_asm) (by k_asm) (by rfl) ?_ hz; intro l9 h9 k9 e9 F9 N9; (rw [hS] at e9); (obtain ⟨le9, td9, hv9⟩ := texts_at e9 hD); (try dsimp only); (try k_fold)) | fail)) | fail))
  (k_with "my:slice" => (first | ((have q9 : SMk 19 := (by with_reducible assumption)); clear q9; (first | (k_here; (with_reducible show wpAny _ _ (subscriptTail _ _ (Value.str x _) (Value.ref _)) _ _ _); (refine slice_strN_ns (s := ⟨_, _, _, _, _⟩) (by k_asm) (by k_asm) ?_ (by with_unfolding_all rfl) (by intro _; with_unfolding_all rfl) (by rw [PySem.sizeLine_eq]; omega)); intro h9 t9 k9 F9 N9; (rw [hF]); (try dsimp only); (try k_fold)) | fail)) | fail))
  (k_with "my:slice2" => (first | ((have q9 : SMk 19 := (by with_reducible assumption)); clear q9; (first | (k_here; (with_reducible show wpAny _ _ (subscriptTail _ _ (Value.str fr _) (Value.ref _)) _ _ _); (refine slice_strN_ns (s := ⟨_, _, _, _, _⟩) (by k_asm) (by k_asm) ?_ (by with_unfolding_all rfl) (by intro _; with_unfolding_all rfl) (by rw [PySem.sizeLine_eq]; omega)); intro h9 t9 k9 F9 N9; (rw [hB]); (try dsimp only); (try k_fold)) | fail)) | fail))
  (k_with "my:itemL" => (first | ((have q9 : SMk 19 := (by with_reducible assumption)); clear q9; (first | (k_here; (with_reducible show wpAny _ _ (subscriptTail _ _ (Value.ref _) (Value.int _ _)) _ _ _); (refine' item_K (by k_asm) (by k_mem) (by omega) (by omega) (by rw [show (((l9.length : Nat) : Int) - 1).toNat = l9.length - 1 from toNat_sub1 _]; exact hv9) ?_ (by with_unfolding_all rfl))) | fail)) | fail))
  (k_with "subscriptTail Name Slice str ref" => (first | ((have q9 : SMk 19 := (by with_reducible assumption)); clear q9; (first | (walk_at "my:slice") | (walk_at "my:slice2") | fail)) | fail))
  (k_with "subscriptTail" => (first | ((have q9 : SMk 19 := (by with_reducible assumption)); clear q9; (first | (walk_at "my:itemL") | fail)) | fail))
  (k_with "compareOp Eq ref ref" => (first | ((have q9 : SMk 19 := (by with_reducible assumption)); clear q9; (refine Stop.at ?_)) | fail))
  k_steps
  · rename (_ != _) = true => w9
    rw [bne_self_eq_false] at w9
    cases w9
  · rename (dg == _) = true => w9
    rw [eq_of_beq w9] at h0
    exact absurd h0 (by decide)
  · rename (Txt.item dg 0 == _) = true => w9
    rw [h1] at w9
    cases w9
  · rename CarriedAll _ _ => c9
    rw [hG.out] at c9
    cases c9
    unfold Stop
    refine eq_intsK (list_in (by k_asm) (by k_mem)) (.nil) (list_in (vs := []) (by k_asm) (by k_mem)) .nil ?_ ?_
    · first | walk_at "my:room" | (show un + 3 + 64 < cLine; omega)
    · k_steps
      all_goals (exact ret _ _ (by k_asm) (by walk_at "my:n"))
/-- the first loop of _law_plain: has a sign that is no dot been seen; the last dot behind such a sign (the length, if none) -/
def sp (l : List Nat) : Nat → Bool × Nat
  | 0 => (false, l.length)
  | i + 1 => if l[i]? = some 46 then (if (sp l i).1 = true then (true, i) else sp l i) else (true, (sp l i).2)
/-- a sign in a short name -/
def mapS (c : Nat) : Nat := if 97 ≤ c ∧ c ≤ 122 then c - 32 else if c ∈ ([46, 43, 91, 59, 61, 44, 93] : List Nat) then 95 else c
/-- the second loop: the base and the tail so far -/
def bt (l : List Nat) (spot : Nat) : Nat → List Nat × List Nat
  | 0 => ([], [])
  | i + 1 => match l[i]? with
    | none => bt l spot i
    | some c => (if mapS c ≠ 32 ∧ i < spot ∧ i < 8 then (bt l spot i).1 ++ [mapS c] else (bt l spot i).1, if mapS c ≠ 32 ∧ spot < i ∧ i ≤ spot + 3 then (bt l spot i).2 ++ [mapS c] else (bt l spot i).2)
theorem sp_le (l : List Nat) : ∀ i, i ≤ l.length → (sp l i).2 ≤ l.length
  | 0, _ => Nat.le_refl _
  | i + 1, h => by
    unfold sp
    split
    · split
      · exact Nat.le_of_lt h
      · exact sp_le l i (Nat.le_of_succ_le h)
    · exact sp_le l i (Nat.le_of_succ_le h)
theorem sp_dot {l : List Nat} {i : Nat} (h : l[i]? = some 46) (hs : (sp l i).1 = true) : sp l (i + 1) = (true, i) := by
  show (if l[i]? = some 46 then _ else _) = _
  rw [if_pos h, if_pos hs]
theorem sp_dot0 {l : List Nat} {i : Nat} (h : l[i]? = some 46) (hs : (sp l i).1 = false) : sp l (i + 1) = sp l i := by
  show (if l[i]? = some 46 then _ else _) = _
  rw [if_pos h, if_neg (by rw [hs]; exact Bool.false_ne_true)]
theorem sp_sign {l : List Nat} {i : Nat} (h : l[i]? ≠ some 46) : sp l (i + 1) = (true, (sp l i).2) := by
  show (if l[i]? = some 46 then _ else _) = _
  rw [if_neg h]
noncomputable abbrev pl2 : List Stmt := lit (match nthSt f22B 5 with | .For _ _ b _ _ => b | _ => []) _ (by conv => lhs; whnf)
noncomputable abbrev plIf : Stmt := lit (nthSt pl2 1) _ (by conv => lhs; whnf)
noncomputable abbrev env22 (L : Addr) : Env := envOf (Str.ofString "_law_plain") f22S L 640 (.ref 639)
theorem occ_sign : ∀ c, c < 128 → (Builtin.Str.occurrences (Str.ofString ".+[;=,]") ⟨#[c]⟩ 0 (Str.ofString ".+[;=,]").length 1).isEmpty = !(([46, 43, 91, 59, 61, 44, 93] : List Nat).contains c) := by decide +kernel
theorem mapS_low {c : Nat} (h1 : (97 : Int) ≤ (c : Int)) (h2 : (c : Int) ≤ 122) : mapS c = ((c : Int) - 32).toNat := by
  unfold mapS
  rw [if_pos ⟨by omega, by omega⟩]
  exact (Int.toNat_sub c 32).symm
theorem mapS_in {c : Nat} (hc : c < 128) (h : ¬ (97 ≤ c ∧ c ≤ 122)) (ho : (Builtin.Str.occurrences (Str.ofString ".+[;=,]") ⟨#[c]⟩ 0 (Str.ofString ".+[;=,]").length 1).isEmpty = false) : mapS c = 95 := by
  rw [occ_sign c hc, Bool.not_eq_false'] at ho
  unfold mapS
  rw [if_neg h, if_pos (List.contains_iff_mem.mp ho)]
theorem mapS_out {c : Nat} (hc : c < 128) (h : ¬ (97 ≤ c ∧ c ≤ 122)) (ho : (Builtin.Str.occurrences (Str.ofString ".+[;=,]") ⟨#[c]⟩ 0 (Str.ofString ".+[;=,]").length 1).isEmpty = true) : mapS c = c := by
  rw [occ_sign c hc, Bool.not_eq_true'] at ho
  unfold mapS
  rw [if_neg h, if_neg (fun q => by rw [List.contains_iff_mem.mpr q] at ho; cases ho)]
theorem fr_same {h : Heap} {x : Str} {v : Value} (F : Fr h₀ L h m) (hm : m x = some v) : Fr h₀ L h (fun y => if y = x then some v else m y) := by
  have : (fun y => if y = x then some v else m y) = m := by
    funext y
    by_cases q : y = x
    · rw [if_pos q, q, hm]
    · rw [if_neg q]
  rw [this]; exact F
theorem st_sign {QF : Flow → Shared → Prop} {c : Nat} {t : Tok} (B : Below A₀ base outer h₀) (F : Fr h₀ L s.heap m) (X : (KK w.params).In h₀) (N : News h₀ L s.heap news) (T : Top VW LO mean mg mb h₀) (hd : dp + 8 < recursionLimit) (hu : un + 64 < cLine) (hm : m (Str.ofString "sign") = some (.str ⟨#[c]⟩ t)) (hc : c < 128)
    (ret : ∀ t' h' tk', Fr h₀ L h' (fun y => if y = Str.ofString "sign" then some (.str ⟨#[mapS c]⟩ t') else m y) → News h₀ L h' news → QF .next { s with heap := h', toks := tk' }) :
    wpAny (model PR w) (ktrTop dp un gd (Str.ofString "_law_plain") f22S L 640 (.ref 639) [] outer) (exec plIf (env22 L)) QF E s := by
  dsimp only [plIf, lit, env22]
  k_steps
  · rename (97 : Int) ≤ _ => w1
    rename _ ≤ (122 : Int) => w2
    exact ret _ _ _ (by rw [mapS_low w1 w2]; k_asm) (by walk_at "my:n")
  all_goals (rename _ = _ => w3)
  all_goals (first
    | exact ret _ _ _ (by rw [mapS_out hc (by omega) w3]; exact fr_same (by with_reducible assumption) hm) (by walk_at "my:n")
    | exact ret _ _ _ (by rw [mapS_in hc (by omega) w3]; k_asm) (by walk_at "my:n"))
noncomputable abbrev plB : Stmt := lit (nthSt pl2 2) _ (by conv => lhs; whnf)
noncomputable abbrev plT : Stmt := lit (nthSt pl2 3) _ (by conv => lhs; whnf)
theorem ne_blank {d : Nat} (h : ((⟨#[d]⟩ : Str) != Str.ofString " ") = true) : d ≠ 32 := fun q => by
  rw [q] at h
  exact absurd h (by decide)
theorem is_blank {d : Nat} (h : ((⟨#[d]⟩ : Str) != Str.ofString " ") = false) : d = 32 := one_of_eq (d := 32) (bne_dot h)
theorem st_base {QF : Flow → Shared → Prop} {d i sq : Nat} {b : Str} {t tb ti ts : Tok} (B : Below A₀ base outer h₀) (F : Fr h₀ L s.heap m) (X : (KK w.params).In h₀) (N : News h₀ L s.heap news) (T : Top VW LO mean mg mb h₀) (hd : dp + 8 < recursionLimit) (hu : un + 64 < cLine) (hm : m (Str.ofString "sign") = some (.str ⟨#[d]⟩ t)) (hm2 : m (Str.ofString "k") = some (.int (i : Int) ti)) (hm3 : m (Str.ofString "spot") = some (.int (sq : Int) ts)) (hm4 : m (Str.ofString "base") = some (.str b tb)) (hb : b.length ≤ 64)
    (ret : ∀ b' t' h' tk', Mine.T b' = (if d ≠ 32 ∧ i < sq ∧ i < 8 then Mine.T b ++ [d] else Mine.T b) → Fr h₀ L h' (fun y => if y = Str.ofString "base" then some (.str b' t') else m y) → News h₀ L h' news → QF .next { s with heap := h', toks := tk' }) :
    wpAny (model PR w) (ktrTop dp un gd (Str.ofString "_law_plain") f22S L 640 (.ref 639) [] outer) (exec plB (env22 L)) QF E s := by
  dsimp only [plB, lit, env22]
  have h1 : b.length + (⟨#[d]⟩ : Str).length ≤ sizeLine := by rw [PySem.sizeLine_eq]; show _ + 1 ≤ _; omega
  k_steps
  · rename (_ != Str.ofString " ") = true => w9
    exact ret (b ++ ⟨#[d]⟩) _ _ _ (by rw [if_pos ⟨ne_blank w9, by omega, by omega⟩]; exact T_add _ _) (by k_asm) (by walk_at "my:n")
  · exact ret b tb _ _ (by rw [if_neg (fun q => by omega)]) (fr_same (by with_reducible assumption) hm4) (by walk_at "my:n")
  · exact ret b tb _ _ (by rw [if_neg (fun q => by omega)]) (fr_same (by with_reducible assumption) hm4) (by walk_at "my:n")
  · rename (_ != Str.ofString " ") = false => w9
    exact ret b tb _ _ (by rw [if_neg (fun q => q.1 (is_blank w9))]) (fr_same (by with_reducible assumption) hm4) (by walk_at "my:n")
theorem st_tail {QF : Flow → Shared → Prop} {d i sq : Nat} {b : Str} {t tb ti ts : Tok} (B : Below A₀ base outer h₀) (F : Fr h₀ L s.heap m) (X : (KK w.params).In h₀) (N : News h₀ L s.heap news) (T : Top VW LO mean mg mb h₀) (hd : dp + 8 < recursionLimit) (hu : un + 64 < cLine) (hm : m (Str.ofString "sign") = some (.str ⟨#[d]⟩ t)) (hm2 : m (Str.ofString "k") = some (.int (i : Int) ti)) (hm3 : m (Str.ofString "spot") = some (.int (sq : Int) ts)) (hm4 : m (Str.ofString "tail") = some (.str b tb)) (hb : b.length ≤ 64)
    (ret : ∀ b' t' h' tk', Mine.T b' = (if d ≠ 32 ∧ sq < i ∧ i ≤ sq + 3 then Mine.T b ++ [d] else Mine.T b) → Fr h₀ L h' (fun y => if y = Str.ofString "tail" then some (.str b' t') else m y) → News h₀ L h' news → QF .next { s with heap := h', toks := tk' }) :
    wpAny (model PR w) (ktrTop dp un gd (Str.ofString "_law_plain") f22S L 640 (.ref 639) [] outer) (exec plT (env22 L)) QF E s := by
  dsimp only [plT, lit, env22]
  have h1 : b.length + (⟨#[d]⟩ : Str).length ≤ sizeLine := by rw [PySem.sizeLine_eq]; show _ + 1 ≤ _; omega
  k_steps
  · rename (_ != Str.ofString " ") = true => w9
    exact ret (b ++ ⟨#[d]⟩) _ _ _ (by rw [if_pos ⟨ne_blank w9, by omega, by omega⟩]; exact T_add _ _) (by k_asm) (by walk_at "my:n")
  · exact ret b tb _ _ (by rw [if_neg (fun q => by omega)]) (fr_same (by with_reducible assumption) hm4) (by walk_at "my:n")
  · exact ret b tb _ _ (by rw [if_neg (fun q => by omega)]) (fr_same (by with_reducible assumption) hm4) (by walk_at "my:n")
  · rename (_ != Str.ofString " ") = false => w9
    exact ret b tb _ _ (by rw [if_neg (fun q => q.1 (is_blank w9))]) (fr_same (by with_reducible assumption) hm4) (by walk_at "my:n")
theorem bt_len (l : List Nat) (sq : Nat) : ∀ i, (bt l sq i).1.length ≤ i ∧ (bt l sq i).2.length ≤ i
  | 0 => ⟨Nat.le_refl _, Nat.le_refl _⟩
  | i + 1 => by
    have ih := bt_len l sq i
    unfold bt
    split
    · exact ⟨Nat.le_succ_of_le ih.1, Nat.le_succ_of_le ih.2⟩
    · constructor
      · show (if _ then _ else _ : List Nat).length ≤ _
        split
        · rw [List.length_append]; exact Nat.succ_le_succ ih.1
        · exact Nat.le_succ_of_le ih.1
      · show (if _ then _ else _ : List Nat).length ≤ _
        split
        · rw [List.length_append]; exact Nat.succ_le_succ ih.2
        · exact Nat.le_succ_of_le ih.2
theorem bt_next {l : List Nat} {sq i c : Nat} (h : l[i]? = some c) : bt l sq (i + 1) = (if mapS c ≠ 32 ∧ i < sq ∧ i < 8 then (bt l sq i).1 ++ [mapS c] else (bt l sq i).1, if mapS c ≠ 32 ∧ sq < i ∧ i ≤ sq + 3 then (bt l sq i).2 ++ [mapS c] else (bt l sq i).2) := by
  show (match l[i]? with | none => _ | some c => _) = _
  rw [h]
theorem c_plain {x : Str} {tx : Tok} (B : Below A₀ base outer h₀) (F : Fr h₀ L s.heap m) (X : (KK w.params).In h₀) (N : News h₀ L s.heap news) (T : Top VW LO mean mg mb h₀) (hk : cs.kind = .function) (hd : dp + 12 < recursionLimit) (hu : un + 90 < cLine) (hx : x.length ≤ 64) (hA : Hd (∀ c ∈ Mine.T x, c < 128))
    (ret : ∀ l b y tb ty h' tk', Mine.T b = (bt (Mine.T x) (sp (Mine.T x) x.length).2 x.length).1 → Mine.T y = (if (bt (Mine.T x) (sp (Mine.T x) x.length).2 x.length).2 = [] then [] else 46 :: (bt (Mine.T x) (sp (Mine.T x) x.length).2 x.length).2) → Fr h₀ L h' m → News h₀ L h' ((l, { cls := .type "tuple", data := .seq #[.str b tb, .str y ty] 0 }) :: news) → Q (.ref l) { s with heap := h', toks := tk' }) :
    wpAny (model PR w) (ktrTop dp un gd cn cs L a ccd cl outer) (call (.ref 640) [.str x tx]) Q E s := by
  have sm20 : SMk 20 := trivial
  refine wpAny_call ?_
  walk_at "my:enter"
  (k_with "exec For Name Call cons nil" => (first | ((have q9 : SMk 20 := (by with_reducible assumption)); clear q9; (first | (k_here; k_dflt (refine For_R (by k_asm) (by rfl) (by rfl) ?_)) | fail)) | fail))
  k_steps
  refine ForSrcR.intro (fun i m₁ nw => nw = news ∧ m₁ (Str.ofString "text") = some (.str x tx) ∧ (∃ t, m₁ (Str.ofString "spot") = some (.int ((sp (Mine.T x) i).2 : Int) t)) ∧ m₁ (Str.ofString "seen") = some (.bool (sp (Mine.T x) i).1)) rfl (by k_asm) (by k_asm) (by assumption) (small_one (by decide) (by decide) (by omega) (by omega)) (rangeSize_nat _ _) ⟨rfl, by exact rfl, ⟨_, by exact rfl⟩, by exact rfl⟩ ?_ ?_
  · intro i9 t9 I9 oI9 m9 nw9 h9 tk9 hi9 hJ9 off9 F9 N9
    refine hideG fun Z hZ => ?_
    obtain ⟨en9, q1, ⟨ts9, q2⟩, q3⟩ := hJ9
    rw [en9] at N9 off9
    have hi : i9 < x.length := Nat.lt_of_lt_of_eq hi9 (toNat_sub0 _)
    obtain ⟨c9, hc9, hit9⟩ := item_at hi
    rw [Int.zero_add] at F9
    have hs0 : ∃ b, (sp (Mine.T x) i9).1 = b := ⟨_, rfl⟩
    obtain ⟨sb, hsb⟩ := hs0
    refine hZ ?_
    clear hZ Z
    rw [hsb] at q3
    have e0 : fo [(Str.ofString "text", .str x tx), (Str.ofString "spot", .int ((sp (Mine.T x) i9).2 : Int) ts9), (Str.ofString "seen", .bool sb)] m9 = m9 := fo_cons q1 (fo_cons q2 (fo_cons q3 fo_nil))
    replace F9 := e0.symm ▸ F9
    have hT : (Mine.T x)[i9]? = some c9 := by rw [← hc9]; exact Array.getElem?_toList
    k_steps
    · rename (_ != Str.ofString ".") = true => w9
      have hne : (Mine.T x)[i9]? ≠ some 46 := by
        intro q
        rw [hit9, Option.some.inj (hT.symm.trans q)] at w9
        exact absurd w9 (by decide)
      refine ForEnd.mk (by k_asm) (by k_asm) off9 trivial ⟨rfl, (by exact rfl), ⟨ts9, ?_⟩, ?_⟩
      · rw [sp_sign hne]; exact rfl
      · rw [sp_sign hne]; exact rfl
    all_goals (rename (_ != Str.ofString ".") = false => w9)
    all_goals (have hdot : (Mine.T x)[i9]? = some 46 := by rw [hit9] at w9; rw [hT, one_of_eq (d := 46) (bne_dot w9)])
    · have e9 := sp_dot hdot (hsb.trans (by with_reducible assumption))
      rw [e9]
      refine ForEnd.mk (by k_asm) (by k_asm) off9 trivial ⟨rfl, (by exact rfl), ⟨t9, by exact rfl⟩, ?_⟩
      have eb : sb = true := by with_reducible assumption
      show some (Value.bool sb) = _
      rw [eb]
    · have e9 := sp_dot0 hdot (hsb.trans (by with_reducible assumption))
      rw [e9, hsb]
      exact ForEnd.mk (by k_asm) (by k_asm) off9 trivial ⟨rfl, (by exact rfl), ⟨ts9, by exact rfl⟩, by exact rfl⟩
  · intro h9 tk9 m9 nw9 F9 N9 hJ9
    refine hideG fun Z hZ => ?_
    obtain ⟨en9, q1, ⟨ts9, q2⟩, _⟩ := hJ9
    rw [en9] at N9
    rw [show ((x.length : Int) - 0).toNat = x.length from toNat_sub0 _] at q2
    obtain ⟨sq, hsq⟩ : ∃ k, k = (sp (Mine.T x) x.length).2 := ⟨_, rfl⟩
    rw [← hsq] at q2 ret
    refine hZ ?_
    clear hZ Z
    have e0 : fo [(Str.ofString "text", .str x tx), (Str.ofString "spot", .int (sq : Int) ts9)] m9 = m9 := fo_cons q1 (fo_cons q2 fo_nil)
    replace F9 := e0.symm ▸ F9
    dsimp only
    k_steps
    refine ForSrcR.intro (fun i m₁ nw => nw = news ∧ m₁ (Str.ofString "text") = some (.str x tx) ∧ m₁ (Str.ofString "spot") = some (.int (sq : Int) ts9) ∧ ∃ b tb y ty, m₁ (Str.ofString "base") = some (.str b tb) ∧ m₁ (Str.ofString "tail") = some (.str y ty) ∧ Mine.T b = (bt (Mine.T x) sq i).1 ∧ Mine.T y = (bt (Mine.T x) sq i).2) rfl (by k_asm) (by k_asm) (by assumption) (small_one (by decide) (by decide) (by omega) (by omega)) (rangeSize_nat _ _) ⟨rfl, by exact rfl, by exact rfl, _, _, _, _, by exact rfl, by exact rfl, rfl, rfl⟩ ?_ ?_
    · intro i9 t9 I9 oI9 m9 nw9 h9 tk9 hi9 hJ9 off9 F9 N9
      refine hideG fun Z hZ => ?_
      obtain ⟨en9, q1, q2, b9, tb9, y9, ty9, q3, q4, hb9, hy9⟩ := hJ9
      rw [en9] at N9 off9
      have hi : i9 < x.length := Nat.lt_of_lt_of_eq hi9 (toNat_sub0 _)
      obtain ⟨c9, hc9, hit9⟩ := item_at hi
      refine hZ ?_
      clear hZ Z
      rw [Int.zero_add] at F9
      have hT : (Mine.T x)[i9]? = some c9 := by rw [← hc9]; exact Array.getElem?_toList
      have hlt := hA.out c9 (List.mem_of_getElem? hT)
      have lb : b9.length ≤ 64 := by have := (bt_len (Mine.T x) sq i9).1; rw [← hb9, T_len] at this; omega
      have ly : y9.length ≤ 64 := by have := (bt_len (Mine.T x) sq i9).2; rw [← hy9, T_len] at this; omega
      have e0 : fo [(Str.ofString "text", .str x tx), (Str.ofString "spot", .int (sq : Int) ts9), (Str.ofString "base", .str b9 tb9), (Str.ofString "tail", .str y9 ty9)] m9 = m9 := fo_cons q1 (fo_cons q2 (fo_cons q3 (fo_cons q4 fo_nil)))
      replace F9 := e0.symm ▸ F9
      (k_with "exec If" => (first | ((have q9 : SMk 20 := (by with_reducible assumption)); clear q9; (first | (k_here; (with_reducible show wpAny _ _ (exec plT _) _ _ _); k_dflt (refine' st_tail (d := mapS c9) (by k_asm) (by k_asm) (by k_asm) (by k_asm) (by k_asm) (by walk_at "my:room") (by walk_at "my:room") (by exact rfl) (by exact rfl) (by exact rfl) (by exact rfl) ly ?_; k_whole); intro y8 ty8 h9 tk9 ey8 F9 N9; (try dsimp only); (try k_fold)) | fail)) | fail))
      (k_with "exec If" => (first | ((have q9 : SMk 20 := (by with_reducible assumption)); clear q9; (first | (k_here; (with_reducible show wpAny _ _ (exec plB _) _ _ _); k_dflt (refine' st_base (d := mapS c9) (by k_asm) (by k_asm) (by k_asm) (by k_asm) (by k_asm) (by walk_at "my:room") (by walk_at "my:room") (by exact rfl) (by exact rfl) (by exact rfl) (by exact rfl) lb ?_; k_whole); intro b8 tb8 h9 tk9 eb8 F9 N9; (try dsimp only); (try k_fold)) | fail)) | fail))
      (k_with "exec If" => (first | ((have q9 : SMk 20 := (by with_reducible assumption)); clear q9; (first | (k_here; (with_reducible show wpAny _ _ (exec plIf _) _ _ _); k_dflt (refine' st_sign (c := c9) (by k_asm) (by k_asm) (by k_asm) (by k_asm) (by k_asm) (by walk_at "my:room") (by walk_at "my:room") (by rw [← hit9]; exact rfl) hlt ?_; k_whole); intro t9 h9 tk9 F9 N9; (try dsimp only); (try k_fold)) | fail)) | fail))
      k_steps
      refine ForEnd.mk (by k_asm) (by k_asm) off9 trivial ⟨rfl, (by exact rfl), (by exact rfl), xi4 b8 tb8 y8 ty8 ⟨(by exact rfl), (by exact rfl), ?_, ?_⟩⟩
      · rw [bt_next hT, eb8, hb9]
      · rw [bt_next hT, ey8, hy9]
    · intro h9 tk9 m9 nw9 F9 N9 hJ9
      refine hideG fun Z hZ => ?_
      obtain ⟨en9, q1, q2, b9, tb9, y9, ty9, q3, q4, hb9, hy9⟩ := hJ9
      refine hZ ?_
      clear hZ Z
      rw [en9] at N9
      rw [show ((x.length : Int) - 0).toNat = x.length from toNat_sub0 _] at hb9 hy9
      have ly : y9.length ≤ 64 := by have := (bt_len (Mine.T x) sq x.length).2; rw [← hy9, T_len] at this; omega
      have l1 : (Str.ofString ".").length + y9.length ≤ sizeLine := by rw [PySem.sizeLine_eq]; show 1 + _ ≤ _; omega
      have e0 : fo [(Str.ofString "text", .str x tx), (Str.ofString "spot", .int (sq : Int) ts9), (Str.ofString "base", .str b9 tb9), (Str.ofString "tail", .str y9 ty9)] m9 = m9 := fo_cons q1 (fo_cons q2 (fo_cons q3 (fo_cons q4 fo_nil)))
      replace F9 := e0.symm ▸ F9
      dsimp only
      k_steps
      · rename _ ≠ (0 : Int) => w9
        refine ret _ b9 (Str.ofString "." ++ y9) _ _ _ _ hb9 ?_ (by k_asm) (by k_asm)
        rw [if_neg (fun q => by rw [q] at hy9; rw [← T_len, hy9] at w9; exact w9 rfl), T_add, hy9]
        rfl
      · rename _ = (0 : Int) => w9
        refine ret _ b9 (Str.ofString "") _ _ _ _ hb9 ?_ (by k_asm) (by k_asm)
        rw [if_pos (by rw [← hy9]; exact List.eq_nil_of_length_eq_zero (by rw [T_len]; exact Int.ofNat_eq_zero.mp w9))]
        rfl
/-! ## a comprehension over a list of the ledger -/
section
open LCg
variable {prog : Program} {A : Around} {env : Env}
theorem ListComp_L {elt iter : Expr} {x : Str} {px : Pos} {scope : Scope} {cl : List (Str × Addr)} {pos : Pos} {Q : Value → Shared → Prop} (F₀ : Fr h₀ L s.heap m)
    (hclos : closureFor scope env = pure cl) (hcell : ∀ y ∈ scope.names, y.2 ≠ .cell) (hkind : scope.kind = .function)
    (hnames : ∀ y ∈ scope.names, y.2 = .local → scope.names.lookup y.1 = some .local) (hx : scope.names.lookup x = some .local)
    (h : wpAny (model prog w) A (eval iter env) (fun xv s₁ => ∃ (r : Addr) (vs : List Value) (k : Nat) (news : List (Addr × Obj)), xv = .ref r ∧ A.handled = none ∧ Fr h₀ L s₁.heap m ∧ News h₀ L s₁.heap news ∧ (r, W.listOf vs.toArray k) ∈ news ∧ vs.length ≤ sizeLine ∧
      ∀ s₂ : Shared, (∃ h, s₂ = { s₁ with heap := h }) → CompRest prog w A h₀ L m env elt x scope cl s₂ (fun nw => (r, W.listOf vs.toArray k) ∈ nw) (fun i v => vs[i]? = some v) (FinE h₀ L m s₂ Q) vs.length 0 [] news) E s)
    (hs : ∀ x, foldedSetIterable iter env x = pure x := by intro _; rfl) :
    wpAny (model prog w) A (eval (.ListComp elt [⟨.Name x px, iter, [], 0⟩] scope pos) env) Q E s := by
  rw [eval_ListComp]
  refine wpAny_comprehension_free (use := none) rfl hs hclos hkind hnames (wpAny_mono h (fun xv s₁ h₁ => ?_) fun _ _ e => e)
  refine hideG fun Z hZ => ?_
  obtain ⟨r, vs, k, news, rfl, hh, F, N, hm, hsz, R⟩ := h₁
  refine hZ ?_
  clear hZ Z
  have up : ∀ (o : Obj) b o', s₁.heap.get? b = some o' → (s₁.heap.push o).get? b = some o' := fun o b o' e => Heap.get?_push_of_some _ e
  have hl := list_in N hm
  have hlt : r < s₁.heap.objs.size := Heap.lt_size (N _ hm).1
  have hne : r ≠ s₁.heap.objs.size := Nat.ne_of_lt hlt
  have hz' : vs.toArray.size ≤ sizeLine := by rw [List.size_toArray]; exact hsz
  have R' : CompRest prog w A h₀ L m env elt x scope cl { s₁ with heap := s₁.heap.push { cls := Value.type "list_iterator", data := Data.fields #[Value.ref r, Value.int 0 0] } } (fun nw => (r, W.listOf vs.toArray k) ∈ nw) (fun i v => vs.toArray[i]? = some v) (FinE h₀ L m { s₁ with heap := s₁.heap.push { cls := Value.type "list_iterator", data := Data.fields #[Value.ref r, Value.int 0 0] } } Q) vs.toArray.size 0 [] news := by
    have R1 := R { s₁ with heap := s₁.heap.push { cls := Value.type "list_iterator", data := Data.fields #[Value.ref r, Value.int 0 0] } } ⟨_, rfl⟩
    rw [List.size_toArray, show (fun (i : Nat) (v : Value) => vs.toArray[i]? = some v) = (fun i v => vs[i]? = some v) from by funext i v; rw [List.getElem?_toArray]]
    exact R1
  refine wpAny_pyIter_list hl ?_
  refine block_U (S := fun nw => (r, W.listOf vs.toArray k) ∈ nw) (Walks.list hh s₁.heap.objs.size r hne vs.toArray) hz' (fun i h st => ⟨_, st.1.choose_spec.1⟩) (fun i h h' o nw st e e' kp N' hs' => ?_) hcell hkind hx
    ⟨?_, ?_⟩ (fun b hb => ?_)
    (F.keeps (up _)) (N.grown (up _)) (Nat.ne_of_lt F.ns.lt) (next_is_new F) (fun p hp => Nat.ne_of_lt (Heap.lt_size (N p hp).1)) hm R' ?_
  · obtain ⟨⟨o', q, r'⟩, _⟩ := st
    rw [e] at q; cases q
    exact ⟨⟨o, e', r'⟩, list_in N' hs'⟩
  · exact ⟨_, Heap.get?_push_size _ rfl, rfl, rfl⟩
  · exact list_in (N.grown (up _)) hm
  · show b < (s₁.heap.push _).objs.size
    rw [Heap.size_push]
    rcases List.mem_cons.mp hb with rfl | hb
    · exact Nat.lt_succ_self _
    · rw [List.mem_singleton.mp hb]; exact Nat.lt_succ_of_lt hlt
  · intro D C h tk m' ys news' F' N' o1 hn hC₀ hD₀ hCL hDL hCD offC fin
    refine ⟨m', hn, fun h'' hs'' => fin D h'' tk (F'.change hs'' hCL hC₀) (fun p hp => ?_) o1⟩
    refine ⟨hs''.extBut _ _ ?_ (N' p hp).1, (N' p hp).2⟩
    rcases List.mem_cons.mp hp with rfl | hp
    · exact Ne.symm hCD
    · exact offC p hp
theorem off1_ne {D : Addr} (l : List (Addr × Obj)) (h : Off1 D l) : ∀ p ∈ l, p.1 ≠ D := by
  induction l with
  | nil => intro p hp; cases hp
  | cons q r ih =>
    intro p hp
    rcases List.mem_cons.mp hp with e | hp
    · rw [e]; exact h.1
    · exact ih h.2 p hp
end
noncomputable abbrev mcP : Arguments := lit (match nthSt f14m14B 3 with | .FunctionDef _ p _ _ _ _ _ _ _ _ => p | _ => default) _ (by conv => lhs; whnf)
noncomputable abbrev mcB : List Stmt := lit (match nthSt f14m14B 3 with | .FunctionDef _ _ b _ _ _ _ _ _ _ => b | _ => []) _ (by conv => lhs; whnf)
noncomputable abbrev mcS : Scope := lit (match nthSt f14m14B 3 with | .FunctionDef _ _ _ _ _ _ s _ _ _ => s | _ => default) _ (by conv => lhs; whnf)
/-- what map_chars makes of octets -/
def mapU (l : List UInt8) : List UInt8 := (l.filter fun c => c != 32).map fun c => if (badC.any fun y => decide ((c.toNat : Int) = y)) = true then 95 else c
theorem mapU_blank {l : List UInt8} {c : UInt8} (h : c = 32) : mapU (l ++ [c]) = mapU l := by
  unfold mapU
  rw [List.filter_append, h]
  show List.map _ (_ ++ []) = _
  rw [List.append_nil]
theorem mapU_sign {l : List UInt8} {c : UInt8} (h : c ≠ 32) : mapU (l ++ [c]) = mapU l ++ [if (badC.any fun y => decide ((c.toNat : Int) = y)) = true then 95 else c] := by
  unfold mapU
  rw [List.filter_append, List.map_append, List.filter_cons, if_pos (by simpa using h)]
  rfl
theorem mapU_len (l : List UInt8) : (mapU l).length ≤ l.length := by
  unfold mapU
  rw [List.length_map]
  exact List.length_filter_le _ _
theorem c_map {f c' : Addr} {oc : Obj} {vs : Array Value} {qual : Str} {t₁ : Tok} {doc pm ctv : Value} {b : Array UInt8} {tb : Tok} (B : Below A₀ base outer h₀) (F : Fr h₀ L s.heap m) (X : (KK w.params).In h₀) (N : News h₀ L s.heap news) (T : Top VW LO mean mg mb h₀) (hk : cs.kind = .function) (hd : dp + 4 < recursionLimit) (hu : un + 40 < cLine)
    (hf : (f, fnMade (Str.ofString "map_chars") qual mcP mcB mcS [] doc pm c' ctv) ∈ news) (hc : (c', oc) ∈ news) (d1 : oc.data = .fields vs) (d2 : vs[1]? = some (.str qual t₁)) (hb : b.size ≤ 64)
    (ret : ∀ b' t h' tk', b'.toList = mapU b.toList → Fr h₀ L h' m → News h₀ L h' news → Q (.bytes b' t) { s with heap := h', toks := tk' }) :
    wpAny (model PR w) (ktrTop dp un gd cn cs L a ccd cl outer) (call (.ref f) [.bytes b tb]) Q E s := by
  have sm21 : SMk 21 := trivial
  refine wpAny_call ?_
  refine' code_nest B F X N T (by exact rfl) (by exact rfl) hk hf (codeRec_news N hc d1 d2) (by walk_at "my:room") (by exact BindsTo.of_eq rfl) (by exact locs rfl) ?_ (by exact rfl) (by exact rfl) (by exact rfl) (by decide)
  intro g' L' h' FG' F' N' B' X' T'
  (try dsimp only); (try k_lift B'); (try k_fold)
  (k_with "exec For Name Name cons nil" => (first | ((have q9 : SMk 21 := (by with_reducible assumption)); clear q9; (first | (k_here; k_dflt (refine For_B (by k_asm) (by rfl) (by rfl) ?_)) | fail)) | fail))
  k_steps
  refine ForSrcB.intro (fun i m₁ nw => nw = news ∧ ∃ b₁ t₁, m₁ (Str.ofString "_name") = some (.bytes b₁ t₁) ∧ b₁.toList = mapU (b.toList.take i)) rfl (by k_asm) (by k_asm) ⟨rfl, _, _, by exact rfl, rfl⟩ ?_ ?_
  · intro i9 c9 t9 I9 oI9 m9 nw9 h9 tk9 hc9 hJ9 off9 F9 N9
    obtain ⟨en9, b1, tb1, q1, hb1⟩ := hJ9
    rw [en9] at N9 off9
    have hT : b.toList[i9]? = some c9 := by rw [← hc9]; exact Array.getElem?_toList
    have hl1 : b1.size ≤ 64 := by
      have h1 := mapU_len (b.toList.take i9)
      rw [← hb1, Array.length_toList, List.length_take] at h1
      rw [Array.length_toList] at h1
      omega
    have hlt : (c9.toNat : Int) < 256 := by have := c9.toNat_lt; omega
    have e0 : fo [(Str.ofString "_name", .bytes b1 tb1)] m9 = m9 := fo_cons q1 fo_nil
    replace F9 := e0.symm ▸ F9
    (k_with "inplaceOp Add bytes bytes" => (first | ((have q9 : SMk 21 := (by with_reducible assumption)); clear q9; (first | (k_here; (refine iadd_bytes (by first | (show b1.size + 0 ≤ 16777216; omega) | (show b1.size + 1 ≤ 16777216; omega)) ?_); intro _ _; (try dsimp only); (try k_fold)) | fail)) | fail))
    k_steps
    all_goals (refine ForEnd.mk (by k_asm) (by walk_at "my:n") off9 trivial ⟨rfl, _, _, by exact rfl, ?_⟩; rw [List.take_add_one, hT]; show _ = mapU (_ ++ [c9]); rw [Array.toList_append, hb1])
    · rename _ = (32 : Int) => w9
      rw [mapU_blank (UInt8.toNat_inj.mp (Int.ofNat.inj w9))]
      exact List.append_nil _
    all_goals (rename _ ≠ (32 : Int) => w9; rename (_ || _) = _ => w8)
    all_goals (rw [mapU_sign (fun q => w9 (by rw [q]; rfl))])
    · rw [if_pos (show (badC.any fun y => decide ((c9.toNat : Int) = y)) = true from w8)]
    · rw [if_neg (show ¬ (badC.any fun y => decide ((c9.toNat : Int) = y)) = true from fun q => by rw [show (badC.any fun y => decide ((c9.toNat : Int) = y)) = false from w8] at q; cases q)]
      show _ ++ [((c9.toNat : Int).toNat).toUInt8] = _
      rw [Int.toNat_natCast]
      show _ ++ [UInt8.ofNat c9.toNat] = _
      rw [UInt8.ofNat_toNat]
  · intro h9 tk9 m9 nw9 F9 N9 hJ9
    obtain ⟨en9, b1, tb1, q1, hb1⟩ := hJ9
    rw [en9] at N9
    rw [← Array.length_toList, List.take_length] at hb1
    have e0 : fo [(Str.ofString "_name", .bytes b1 tb1)] m9 = m9 := fo_cons q1 fo_nil
    replace F9 := e0.symm ▸ F9
    dsimp only
    k_steps
    all_goals (exact ret _ _ _ _ hb1 (by k_asm) (by walk_at "my:n"))
theorem code_mk {P : Params} {h : Heap} (X : (KK P).In h) : CodeHd h 236 234 := codeHd_of_K X (by kernel_rfl)
section
variable {M : Model} {A : Around} {c P : Addr} {p : Program} {loose : List Str} {name qual : Str} {params : Arguments} {body : List Stmt} {scope : Scope} {ps : Array Value} {pos : Pos} {firstLine : Nat} {clos : List (Str × Addr)} {rest : List (Addr × Obj)}
/-- a def in a body, the first time or later: its table then holds its code -/
theorem m_nest {Q : Value → Shared → Prop} (F : Fr h₀ L s.heap m) (N : News h₀ L s.heap news) (T : Top p loose mean mg mb h₀) (C : CodeHd h₀ c P) (hcd : ccd = .ref c) (hP : (P, tabObj ps) ∈ news) (hs : ∀ q ∈ rest, q ∈ news) (hne : ∀ q ∈ rest, q.1 ≠ P)
    (hps : ps = #[] ∨ ∃ c' oc vs t, ps = #[rawInt pos.line, rawInt pos.col, .ref c'] ∧ (c', oc) ∈ rest ∧ oc.data = .fields vs ∧ vs[1]? = some (.str qual t))
    (hcl : closureFor scope (envX cn cs L a ccd cl) = pure clos)
    (h : ∀ f c' oc vs t ctv doc h' tk, Fr h₀ L h' m →
      News h₀ L h' ((f, fnMade name qual params body scope clos doc ((mg "__name__").getD .none) c' ctv) :: (P, tabObj #[rawInt pos.line, rawInt pos.col, .ref c']) :: (c', oc) :: rest) →
      oc.data = .fields vs → vs[1]? = some (.str qual t) → c' ≠ P → ((∀ q ∈ rest, q.1 < c') ∨ ((c', oc) ∈ rest ∧ ps = #[rawInt pos.line, rawInt pos.col, .ref c'])) → Q (.ref f) { s with heap := h', toks := tk }) :
    wpAny M (A) (makeFunction name qual params (.stmts body) scope (envX cn cs L a ccd cl) [] [] [] pos firstLine) Q E s := by
  have N' : News h₀ L s.heap ((P, tabObj ps) :: rest) := fun q hq => by
    revert q hq
    exact all_c (N _ hP) (fun q hq => N _ (hs _ hq))
  rcases hps with e | ⟨c', oc, vs, t, e, hc, d1, d2⟩
  · rw [e] at N'
    refine nest_K (g := fun o => (P, o) :: rest) F N' T C hcd (UpdF.head hne) True.intro (by rfl) hcl ?_
    intro f c' oc vs t ctv doc h' tk F' N2 d1 d2 l1 l2
    have hcP : P < c' := l1 _ (.head _)
    refine h f c' oc vs t ctv doc h' tk F' (fun q hq => N2 q ?_) d1 d2 (Nat.ne_of_gt hcP) (.inl fun q hq => l1 _ (.tail _ hq))
    revert q hq
    exact all_c (.head _) (all_c (.tail _ (.tail _ (.head _))) (all_c (.tail _ (.head _)) (fun q hq => .tail _ (.tail _ (.tail _ hq)))))
  · rw [e] at N'
    refine nestHit_K (c' := c') F N' T C hcd (.head _) (by simp [TriplesOk, rawInt]) (by simp [codeAmong, rawInt]) hcl ?_
    intro f ctv doc h' tk F' N2 l1
    refine h f c' oc vs t ctv doc h' tk F' (fun q hq => N2 q ?_) d1 d2 (hne _ hc) (.inr ⟨hc, e⟩)
    revert q hq
    exact all_c (.head _) (all_c (.tail _ (.head _)) (all_c (.tail _ (.tail _ hc)) (fun q hq => .tail _ (.tail _ hq))))
end
/-! ## a while loop, its frame and ledger free to change -/
section
variable {prog : Program} {A : Around} {env : Env}
def WhileEnd (h₀ : Heap) (L : Addr) (s : Shared) (J : Nat → (Str → Option Value) → List (Addr × Obj) → Prop) (n : Nat) (s' : Shared) : Prop :=
  ∃ h' tk' m' news' n', s' = { s with heap := h', toks := tk' } ∧ Fr h₀ L h' m' ∧ News h₀ L h' news' ∧ n' < n ∧ J n' m' news'
theorem WhileEnd.mk {h₀ : Heap} {L : Addr} {s : Shared} {J : Nat → (Str → Option Value) → List (Addr × Obj) → Prop} {n : Nat} {h' : Heap} {tk' : Tok} {m' : Str → Option Value} {news' : List (Addr × Obj)} (n' : Nat)
    (F : Fr h₀ L h' m') (N : News h₀ L h' news') (lt : n' < n) (hJ : J n' m' news') : WhileEnd h₀ L s J n { s with heap := h', toks := tk' } := ⟨h', tk', m', news', n', rfl, F, N, lt, hJ⟩
def WhilePost (h₀ : Heap) (L : Addr) (s : Shared) (J : Nat → (Str → Option Value) → List (Addr × Obj) → Prop) (n : Nat) (Q : Flow → Shared → Prop) (f : Flow) (s' : Shared) : Prop :=
  match f with
  | .next | .cont => WhileEnd h₀ L s J n s'
  | .brk => Q .next s'
  | .ret v => Q (.ret v) s'
theorem While_K {test : Expr} {body : List Stmt} {pos : Pos} {Q : Flow → Shared → Prop} (J : Nat → (Str → Option Value) → List (Addr × Obj) → Prop) (F : Fr h₀ L s.heap m) (N : News h₀ L s.heap news) (n₀ : Nat) (h0 : J n₀ m news)
    (turn : ∀ n m₁ nw h tk, J n m₁ nw → Fr h₀ L h m₁ → News h₀ L h nw → wpAny (model prog w) A (isTrue test env (eval test env)) (fun b s₂ =>
        if b = true then wpAny (model prog w) A (execs body env) (WhilePost h₀ L s J n Q) (notedBy (model prog w) A env fun e s' => cameBackBy (model prog w) A env E e s') s₂ else Q .next s₂)
      (notedBy (model prog w) A env fun e s' => cameBackBy (model prog w) A env E e s') { s with heap := h, toks := tk }) :
    wpAny (model prog w) A (exec (.While test body [] pos) env) Q E s := by
  refine wpAny_While (codeAny_whileLoop (fun n s' => ∃ h' tk' m' news', s' = { s with heap := h', toks := tk' } ∧ Fr h₀ L h' m' ∧ News h₀ L h' news' ∧ J n m' news') ?_ n₀ ⟨s.heap, s.toks, m, news, rfl, F, N, h0⟩)
  intro n s₀ hI
  refine hideG fun Z hZ => ?_
  obtain ⟨h', tk', m', news', rfl, F', N', hJ⟩ := hI
  refine hZ ?_
  clear hZ Z
  refine wpAny_mono (turn n m' news' h' tk' hJ F' N') (fun b s₂ p => ?_) fun _ _ x => x
  cases b with
  | false =>
    simp only [Bool.false_eq_true, if_false] at p ⊢
    exact wpAny_execs_nil p
  | true =>
    simp only [if_true] at p ⊢
    refine wpAny_mono p (fun f s₃ q => ?_) fun _ _ x => x
    have go : WhileEnd h₀ L s J n s₃ → ∃ m, m < n ∧ ∃ h' tk' m' news', s₃ = { s with heap := h', toks := tk' } ∧ Fr h₀ L h' m' ∧ News h₀ L h' news' ∧ J m m' news' := by
      rintro ⟨h', tk', m', news', n', rfl, F', N', hn, hJ⟩
      exact ⟨n', hn, h', tk', m', news', rfl, F', N', hJ⟩
    cases f with
    | ret v => exact q
    | brk => exact q
    | cont => exact go q
    | next => exact go q
end
/-! ## plain laws: slices, the numbered names -/
theorem T_sl (x : Str) (a b : Nat) (hab : a ≤ b) (hb : b ≤ x.length) : Mine.T (Txt.slice x (some (a : Int)) (some (b : Int))) = ((Mine.T x).drop a).take (b - a) := by
  show Mine.T (StrLaws.sliceText x _ _) = _
  rw [StrLaws.sliceText_nat x hab hb]
theorem sl_clip (lo : Option Int) (k n : Nat) (h : n ≤ k) : Builtin.Str.strSliceIndices lo (some (k : Int)) 1 n = Builtin.Str.strSliceIndices lo (some (n : Int)) 1 n := by
  unfold Builtin.Str.strSliceIndices
  have h1 : ¬ ((k : Int) < 0) := by omega
  have h2 : ¬ ((n : Int) < 0) := by omega
  have h3 : min (k : Int) (n : Int) = n := by omega
  have h4 : min (n : Int) (n : Int) = n := by omega
  simp only [if_neg h1, if_neg h2, h3, h4, if_pos (show (1 : Int) > 0 by decide)]
theorem T_sl0 (x : Str) (k : Nat) : Mine.T (Txt.slice x (some 0) (some (k : Int))) = (Mine.T x).take k := by
  by_cases h : k ≤ x.length
  · have := T_sl x 0 k (Nat.zero_le _) h
    rw [List.drop_zero, Nat.sub_zero] at this
    exact this
  · have h' : x.length ≤ k := Nat.le_of_not_le h
    have e : Txt.slice x (some 0) (some (k : Int)) = Txt.slice x (some 0) (some (x.length : Int)) := by
      unfold Txt.slice
      rw [sl_clip _ k x.length h']
    have := T_sl x 0 x.length (Nat.zero_le _) (Nat.le_refl _)
    rw [List.drop_zero, Nat.sub_zero] at this
    rw [e]
    refine Eq.trans this ?_
    rw [List.take_of_length_le (by rw [T_len]; exact Nat.le_refl _), List.take_of_length_le (by rw [T_len]; exact h')]
theorem T_slN (x : Str) (k : Nat) : Mine.T (Txt.slice x none (some (k : Int))) = (Mine.T x).take k := by
  have e : Txt.slice x none (some (k : Int)) = Txt.slice x (some 0) (some (k : Int)) := by
    unfold Txt.slice
    rw [StrLaws.sliceIdx_none_lo]
  rw [e]
  exact T_sl0 x k
theorem T_slF (x : Str) (k : Nat) (h : k ≤ x.length) : Mine.T (Txt.slice x (some (k : Int)) none) = (Mine.T x).drop k := by
  have e : Txt.slice x (some (k : Int)) none = Txt.slice x (some (k : Int)) (some (x.length : Int)) := by
    unfold Txt.slice
    rw [StrLaws.sliceIdx_none_hi]
  rw [e]
  refine Eq.trans (T_sl x k x.length h (Nat.le_refl _)) ?_
  rw [List.take_of_length_le (by rw [List.length_drop, T_len]; exact Nat.le_refl _)]
noncomputable def dgS (j : Nat) : Str := Str.ofString (toString ((j : Nat) : Int))
noncomputable def dg (j : Nat) : List Nat := Mine.T (dgS j)
theorem dg_len : ∀ j, j ≤ 40 → (dgS j).length ≤ 2 := by
  have h : ∀ j : Fin 41, (dgS j.val).length ≤ 2 := by decide +kernel
  exact fun j hj => h ⟨j, by omega⟩
noncomputable def mkB (bs : List Nat) : Nat → List Nat
  | 0 => bs
  | j + 1 => (mkB bs j).take (7 - (dgS (j + 1)).length) ++ 126 :: dg (j + 1)
noncomputable def mkN (bs es : List Nat) (j : Nat) : List Nat := mkB bs j ++ (if es = [] then [] else 46 :: es)
theorem mkB_len {bs : List Nat} (h : bs.length ≤ 8) : ∀ j, j ≤ 40 → (mkB bs j).length ≤ 8
  | 0, _ => h
  | j + 1, hj => by
    have h1 := dg_len (j + 1) hj
    show ((mkB bs j).take _ ++ _).length ≤ 8
    rw [List.length_append, List.length_take, List.length_cons]
    unfold dg
    rw [T_len]
    omega
theorem T_tilde (b : Str) (j : Nat) (hj : j + 1 ≤ 40) : Mine.T (Str.empty ++ Txt.slice b (some 0) (some (8 - (1 + ((Str.ofString (toString (((j + 1 : Nat)) : Int))).length : Int)))) ++ Str.ofString "~" ++ Str.ofString (toString ((j + 1 : Nat) : Int))) = (Mine.T b).take (7 - (dgS (j + 1)).length) ++ 126 :: dg (j + 1) := by
  have h1 := dg_len (j + 1) hj
  have e : (8 - (1 + ((Str.ofString (toString (((j + 1 : Nat)) : Int))).length : Int))) = ((7 - (dgS (j + 1)).length : Nat) : Int) := by
    show 8 - (1 + ((dgS (j + 1)).length : Int)) = _
    omega
  rw [e, T_add, T_add, T_add, T_sl0, List.append_assoc]
  rfl
/-- the entries of a kind -/
noncomputable def selE (k : Nat) (ents : List Ent) : List Ent := ents.filter fun e => e.kind == k
theorem sel_map (k : Nat) (ents : List Ent) : sel k ents = (selE k ents).map fun e => Value.ref e.x := rfl
noncomputable def shown (ents : List Ent) : List Ent := selE 0 ents ++ selE 1 ents
theorem shown_in {ents : List Ent} {e : Ent} (h : e ∈ shown ents) : e ∈ ents := by
  rcases List.mem_append.mp h with h | h
  · exact (List.mem_filter.mp h).1
  · exact (List.mem_filter.mp h).1
theorem shown_vals (ents : List Ent) : (sel 0 ents).toArray.toList ++ (sel 1 ents).toArray.toList = (shown ents).map fun e => Value.ref e.x := by
  show sel 0 ents ++ sel 1 ents = _
  unfold shown
  rw [List.map_append]
  rfl
theorem filter_two {α : Type} (p q : α → Bool) (h : ∀ x, p x = true → q x = false) (l : List α) : (l.filter p).length + (l.filter q).length ≤ l.length := by
  induction l with
  | nil => exact Nat.le_refl _
  | cons x r ih =>
    rw [List.filter_cons, List.filter_cons]
    cases hp : p x with
    | true =>
      rw [if_pos rfl, h x hp, if_neg Bool.false_ne_true, List.length_cons, List.length_cons]
      omega
    | false =>
      rw [if_neg Bool.false_ne_true]
      cases hq : q x with
      | true => rw [if_pos rfl, List.length_cons, List.length_cons]; omega
      | false => rw [if_neg Bool.false_ne_true, List.length_cons]; omega
theorem shown_len (ents : List Ent) : (shown ents).length ≤ ents.length := by
  unfold shown
  rw [List.length_append]
  refine filter_two _ _ (fun e h => ?_) ents
  rw [beq_iff_eq.mp h]
  rfl
noncomputable abbrev mcPos : Pos := lit (match nthSt f14m14B 3 with | .FunctionDef _ _ _ _ _ _ _ _ _ p => p | _ => default) _ (by conv => lhs; whnf)
noncomputable abbrev mcQual : Str := qualnameIn (envOf (Str.ofString "EightDotThree.make_8dot3_name") f14m14S 0 237 (.ref 236)) (Str.ofString "map_chars") (Str.ofString "map_chars")
/-- the parts of a long name, as make_8dot3_name cuts them -/
def CutOk (u : Str) (bs es : List Nat) : Prop := ∀ a b, SplitIs u a b →
  (∃ y, y = Txt.strip (Txt.slice a (some 0) (some 8)) ∧ y.length ≤ 8 ∧ y.cps.all (· < 128) = true ∧ Hd (∀ e : Array UInt8, e.toList = mapU (encB y).toList → Mine.T (decT e) = bs)) ∧
  ∃ y, y = Txt.strip (Txt.slice b (some 1) (some 4)) ∧ y.length ≤ 3 ∧ y.cps.all (· < 128) = true ∧ Hd (∀ e : Array UInt8, e.toList = mapU (encB y).toList → Mine.T (decT e) = es)
theorem encS_size (x : Str) : (encB x).size = x.length := by
  unfold encB
  rw [List.size_toArray, List.length_map, List.length_map, Array.length_toList]
  rfl
theorem mapU_size {b : Array UInt8} {y : Str} (h : b.toList = mapU (encB y).toList) (hy : y.length ≤ 64) : b.size ≤ 64 := by
  have h1 := mapU_len (encB y).toList
  rw [← h, Array.length_toList, Array.length_toList, encS_size] at h1
  exact Nat.le_trans h1 hy
noncomputable abbrev mkIf : Stmt := lit (nthSt f14m14B 11) _ (by conv => lhs; whnf)
theorem st_ext {QF : Flow → Shared → Prop} {y : Str} {ty t0 : Tok} (B : Below A₀ base outer h₀) (F : Fr h₀ L s.heap m) (X : (KK w.params).In h₀) (N : News h₀ L s.heap news) (T : Top VW LO mean mg mb h₀) (hd : dp + 8 < recursionLimit) (hu : un + 64 < cLine) (hm : m (Str.ofString "extname") = some (.str y ty)) (hm2 : m (Str.ofString "extsep") = some (.str (Str.ofString ".") t0)) (hy : y.length ≤ 64)
    (ret : ∀ e' t' h' tk', Mine.T e' = (if Mine.T y = [] then [] else [46]) → Fr h₀ L h' (fun z => if z = Str.ofString "extsep" then some (.str e' t') else m z) → News h₀ L h' news → QF .next { s with heap := h', toks := tk' }) :
    wpAny (model PR w) (ktrTop dp un gd (Str.ofString "EightDotThree.make_8dot3_name") f14m14S L 237 (.ref 236) [] outer) (exec mkIf (envOf (Str.ofString "EightDotThree.make_8dot3_name") f14m14S L 237 (.ref 236))) QF E s := by
  dsimp only [mkIf, lit]
  have hy2 : y.length ≤ sizeLine := by rw [PySem.sizeLine_eq]; omega
  k_steps
  · rename _ = (0 : Int) => w9
    refine ret (Str.ofString "") _ _ _ ?_ (by k_asm) (by walk_at "my:n")
    rw [if_pos (List.eq_nil_of_length_eq_zero (by rw [T_len]; exact Int.ofNat_eq_zero.mp w9))]
    rfl
  · rename _ ≠ (0 : Int) => w9
    refine ret (Str.ofString ".") t0 _ _ ?_ (fr_same (by with_reducible assumption) hm2) (by walk_at "my:n")
    rw [if_neg (fun q => by rw [← T_len, q] at w9; exact w9 rfl)]
    rfl
noncomputable abbrev mkWh : Stmt := lit (nthSt f14m14B 13) _ (by conv => lhs; whnf)
noncomputable abbrev env14 (L : Addr) : Env := envOf (Str.ofString "EightDotThree.make_8dot3_name") f14m14S L 237 (.ref 236)
theorem any_T {names : List Str} {k : Str} (h : (names.any (· == k)) = true) : ∃ x ∈ names, Mine.T x = Mine.T k := by
  obtain ⟨x, hx, e⟩ := List.any_eq_true.mp h
  exact ⟨x, hx, congrArg Mine.T (eq_of_beq e)⟩
theorem none_T {names : List Str} {k : Str} (h : (names.any (· == k)) = false) : ∀ x ∈ names, Mine.T x ≠ Mine.T k := by
  intro x hx e
  rw [T_inj e] at hx
  have := List.any_eq_false.mp h k hx
  exact this (beq_self_eq_true k)
theorem T_short (b sp e : Str) : Mine.T (Str.empty ++ b ++ sp ++ e) = Mine.T b ++ (Mine.T sp ++ Mine.T e) := by
  rw [T_add, T_add, T_add, List.append_assoc]
  rfl
theorem ext_app {sp e : Str} {es : List Nat} (he : Mine.T e = es) (hsp : Mine.T sp = (if es = [] then [] else [46])) : Mine.T sp ++ Mine.T e = (if es = [] then [] else 46 :: es) := by
  rw [hsp, he]
  by_cases q : es = []
  · rw [if_pos q, if_pos q, q]; rfl
  · rw [if_neg q, if_neg q]; rfl
/-- the ten first names that were tried before the j-th lie there -/
def Tried (names : List Str) (bs es : List Nat) (j : Nat) : Prop := ∀ i, i < j → ∃ x ∈ names, Mine.T x = mkN bs es i
theorem Tried.succ {names : List Str} {bs es : List Nat} {j : Nat} (h : Tried names bs es j) (h2 : ∃ x ∈ names, Mine.T x = mkN bs es j) : Tried names bs es (j + 1) := fun i hi => by
  by_cases q : i = j
  · rw [q]; exact h2
  · exact h i (by omega)
/-- what make_8dot3_name has at its while's j-th turn -/
structure WhSt (names : List Str) (bs es : List Nat) (j : Nat) (b : Str) : Prop where
  tb : Mine.T b = mkB bs (j - 1)
  tried : Tried names bs es j
  le : j ≤ 30
structure Whl (names : List Str) (bs es : List Nat) : Prop where
  bl : bs.length ≤ 8
  el : es.length ≤ 3
  fin : ∀ j, j ≤ 40 → Tried names bs es j → j ≤ 30
theorem WhSt.len {names : List Str} {bs es : List Nat} {j : Nat} {b : Str} (h : WhSt names bs es j b) (hw : Whl names bs es) : b.length ≤ 8 := by
  rw [← T_len, h.tb]
  exact mkB_len hw.bl _ (by have := h.le; omega)
theorem WhSt.next0 {names : List Str} {bs es : List Nat} {b sp e : Str} (h : WhSt names bs es 0 b) (hw : Whl names bs es) (he : Mine.T e = es) (hsp : Mine.T sp = (if es = [] then [] else [46])) :
    Mine.T (Str.empty ++ b ++ sp ++ e) = mkN bs es 0 := by
  rw [T_short, ext_app he hsp, h.tb]
  rfl
theorem WhSt.nextS {names : List Str} {bs es : List Nat} {b : Str} {j : Nat} (h : WhSt names bs es (j + 1) b) :
    Mine.T (Str.empty ++ Txt.slice b (some 0) (some (8 - (1 + ((Str.ofString (toString (((j + 1 : Nat)) : Int))).length : Int)))) ++ Str.ofString "~" ++ Str.ofString (toString ((j + 1 : Nat) : Int))) = mkB bs (j + 1) := by
  rw [T_tilde b j (by have := h.le; omega), h.tb]
  rfl
theorem WhSt.go {names : List Str} {bs es : List Nat} {b b' k : Str} {j : Nat} (h : WhSt names bs es j b) (hw : Whl names bs es) (hb : Mine.T b' = mkB bs j) (hk : Mine.T k = mkN bs es j) (hin : (names.any (· == k)) = true) : WhSt names bs es (j + 1) b' := by
  have ht := h.tried.succ (by obtain ⟨x, hx, e⟩ := any_T hin; exact ⟨x, hx, e.trans hk⟩)
  exact ⟨hb, ht, hw.fin _ (by have := h.le; omega) ht⟩
open LCg in
theorem st_while {QF : Flow → Shared → Prop} {D : Addr} {ys : List Value} {names : List Str} {bs es : List Nat} {b e sp : Str} {tb te tsp ti : Tok} (B : Below A₀ base outer h₀) (F : Fr h₀ L s.heap m) (X : (KK w.params).In h₀) (N : News h₀ L s.heap news) (T : Top VW LO mean mg mb h₀) (hd : dp + 8 < recursionLimit) (hu : un + 64 < cLine)
    (hm1 : m (Str.ofString "dir_entries") = some (.ref D)) (hm2 : m (Str.ofString "extsep") = some (.str sp tsp)) (hm3 : m (Str.ofString "extname") = some (.str e te)) (hm4 : m (Str.ofString "i") = some (.int 0 ti)) (hm5 : m (Str.ofString "basename") = some (.str b tb))
    (hD : (D, lst ys) ∈ news) (hy : StrsAre ys names) (hb : Mine.T b = bs) (he : Mine.T e = es) (hsp : Mine.T sp = (if es = [] then [] else [46])) (hw : Whl names bs es)
    (ret : ∀ v t j h' tk' m', Mine.T v = mkN bs es j → Tried names bs es j → (∀ x ∈ names, Mine.T x ≠ mkN bs es j) → j ≤ 30 → Fr h₀ L h' m' → News h₀ L h' news → QF (.ret (.str v t)) { s with heap := h', toks := tk' }) :
    wpAny (model PR w) (ktrTop dp un gd (Str.ofString "EightDotThree.make_8dot3_name") f14m14S L 237 (.ref 236) [] outer) (exec mkWh (env14 L)) QF E s := by
  have sm22 : SMk 22 := trivial
  dsimp only [mkWh, lit, env14]
  have le9 : e.length ≤ 3 := by rw [← T_len, he]; exact hw.el
  have ls9 : sp.length ≤ 1 := by rw [← T_len, hsp]; split <;> decide
  have hD' := list_in N hD
  refine While_K (fun n m₁ nw => nw = news ∧ m₁ (Str.ofString "dir_entries") = some (.ref D) ∧ m₁ (Str.ofString "extsep") = some (.str sp tsp) ∧ m₁ (Str.ofString "extname") = some (.str e te) ∧ ∃ j b t ti, n + j = 40 ∧ m₁ (Str.ofString "i") = some (.int ((j : Nat) : Int) ti) ∧ m₁ (Str.ofString "basename") = some (.str b t) ∧ WhSt names bs es j b) F N 40 ⟨rfl, hm1, hm2, hm3, 0, b, tb, ti, rfl, hm4, hm5, ⟨hb, fun i hi => absurd hi (Nat.not_lt_zero _), Nat.zero_le _⟩⟩ ?_
  intro n9 m9 nw9 h9 tk9 hJ9 F9 N9
  refine hideG fun Z hZ => ?_
  refine an5 hJ9 ?_
  clear hJ9
  intro en9 q1 q2 q3 hJ9
  refine ex4 hJ9 ?_
  clear hJ9
  intro j9 b9 tb9 ti9 hJ9
  refine an4 hJ9 ?_
  clear hJ9
  intro hn9 q4 q5 st9
  refine hZ ?_
  clear hZ Z
  rw [en9] at N9
  have hb9 := st9.len hw
  have hj9 := st9.le
  have dl9 := dg_len j9 (by omega)
  replace dl9 : (Str.ofString (toString ((j9 : Nat) : Int))).length ≤ 2 := dl9
  have e0 : fo [(Str.ofString "dir_entries", .ref D), (Str.ofString "extsep", .str sp tsp), (Str.ofString "extname", .str e te), (Str.ofString "i", .int (j9 : Int) ti9), (Str.ofString "basename", .str b9 tb9)] m9 = m9 := fo_cons q1 (fo_cons q2 (fo_cons q3 (fo_cons q4 (fo_cons q5 fo_nil))))
  replace F9 := e0.symm ▸ F9
  (k_with "compareOp NotIn str ref" => (first | ((have q9 : SMk 22 := (by with_reducible assumption)); clear q9; (first | (k_here; k_dflt (refine' notin_list_strs (list_in (by k_asm) hD) hy ?_; k_whole); (try dsimp only); (try k_fold)) | fail)) | fail))
  k_steps
  · rename List.any _ _ = true => w9
    rename (0 : Int) < _ => w8
    refine hideG fun Z hZ => ?_
    obtain ⟨j, rfl⟩ : ∃ j, j9 = j + 1 := ⟨j9 - 1, by omega⟩
    refine hZ ?_
    clear hZ Z
    have hb' := st9.nextS
    refine WhileEnd.mk (n9 - 1) (by k_asm) (by k_asm) (by omega) ⟨rfl, (by exact rfl), (by exact rfl), (by exact rfl), xi4 (j + 1 + 1) _ _ _ ⟨(by omega), (by exact rfl), (by exact rfl), st9.go hw hb' (k := _) ?_ w9⟩⟩
    rw [T_short, ext_app he hsp, hb']
    rfl
  · rename List.any _ _ = false => w9
    rename (0 : Int) < _ => w8
    refine hideG fun Z hZ => ?_
    obtain ⟨j, rfl⟩ : ∃ j, j9 = j + 1 := ⟨j9 - 1, by omega⟩
    refine hZ ?_
    clear hZ Z
    have hk' : Mine.T (Str.empty ++ (Str.empty ++ Txt.slice b9 (some 0) (some (8 - (1 + ((Str.ofString (toString (((j + 1 : Nat)) : Int))).length : Int)))) ++ Str.ofString "~" ++ Str.ofString (toString ((j + 1 : Nat) : Int))) ++ sp ++ e) = mkN bs es (j + 1) := by
      rw [T_short, ext_app he hsp, st9.nextS]
      rfl
    exact ret _ _ (j + 1) _ _ _ hk' st9.tried (fun x hx => by rw [← hk']; exact none_T w9 x hx) st9.le (by k_asm) (by k_asm)
  · rename List.any _ _ = true => w9
    refine hideG fun Z hZ => ?_
    obtain rfl : j9 = 0 := by omega
    refine hZ ?_
    clear hZ Z
    refine WhileEnd.mk (n9 - 1) (by k_asm) (by k_asm) (by omega) ⟨rfl, (by exact rfl), (by exact rfl), (by exact rfl), xi4 (0 + 1) _ _ _ ⟨(by omega), (by exact rfl), (by exact rfl), st9.go hw st9.tb (st9.next0 hw he hsp) w9⟩⟩
  · rename List.any _ _ = false => w9
    refine hideG fun Z hZ => ?_
    obtain rfl : j9 = 0 := by omega
    refine hZ ?_
    clear hZ Z
    have hk' := st9.next0 hw he hsp
    exact ret _ _ 0 _ _ _ hk' st9.tried (fun x hx => by rw [← hk']; exact none_T w9 x hx) st9.le (by k_asm) (by k_asm)
open LCg in
theorem c_make {rest : List (Addr × Obj)} {x pl : Addr} {ents : List Ent} {k : Nat} {z u : Str} {tz : Tok} {bs es : List Nat} {ps : Array Value} (B : Below A₀ base outer h₀) (F : Fr h₀ L s.heap m) (X : (KK w.params).In h₀) (N : News h₀ L s.heap news) (T : Top VW LO mean mg mb h₀) (hk : cs.kind = .function) (hd : dp + 30 < recursionLimit) (hu : un + 300 < cLine)
    (hx : DirIn w.params news x pl) (hl : (pl, W.listOf (ents.map fun e => Value.ref e.x).toArray k) ∈ news) (he : ∀ e ∈ ents, EntOk w.params news e) (hz : Hd (ents.length ≤ 64)) (hP : (234, tabObj ps) ∈ news) (hs : ∀ q ∈ rest, q ∈ news) (hne : ∀ q ∈ rest, q.1 ≠ 234)
    (hps : ps = #[] ∨ ∃ c' oc vs t, ps = #[rawInt mcPos.line, rawInt mcPos.col, .ref c'] ∧ (c', oc) ∈ rest ∧ oc.data = .fields vs ∧ vs[1]? = some (.str mcQual t))
    (hup : Txt.upper z = u) (hz1 : z.length ≤ 64) (hu1 : u.length ≤ 64) (hu2 : ∀ j : Nat, u.cps[j]? ≠ some 47) (hcut : CutOk u bs es) (hw : Whl ((shown ents).map fun e => nameT e.b) bs es)
    (ret : ∀ v t j c' oc vs t₁ h' tk', Mine.T v = mkN bs es j → Tried ((shown ents).map fun e => nameT e.b) bs es j → (∀ x ∈ ((shown ents).map fun e => nameT e.b), Mine.T x ≠ mkN bs es j) → j ≤ 30 → Fr h₀ L h' m → News h₀ L h' ((234, tabObj #[rawInt mcPos.line, rawInt mcPos.col, .ref c']) :: (c', oc) :: rest) →
      oc.data = .fields vs → vs[1]? = some (.str mcQual t₁) → c' ≠ 234 → ((∀ q ∈ rest, q.1 < c') ∨ ((c', oc) ∈ rest ∧ ps = #[rawInt mcPos.line, rawInt mcPos.col, .ref c'])) → Q (.str v t) { s with heap := h', toks := tk' }) :
    wpAny (model PR w) (ktrTop dp un gd cn cs L a ccd cl outer) (call (.ref 237) [.str z tz, .ref x]) Q E s := by
  have sm23 : SMk 23 := trivial
  unfold CutOk at hcut
  refine hx.elim ?_
  intro dx e8 par u1 u2 u3 u4 u5 u6 u7 u8 u9 u10 u11 u12 u13 u14 u15 u16 u17 u18 r1 r2 r3 r4 r5 r6 r7 r8 r9 r10 r11 r12 h1 h2
  refine wpAny_call ?_
  walk_at "my:enter"
  (k_with "call ref" => (first | ((have q9 : SMk 23 := (by with_reducible assumption)); clear q9; (first | (k_here; (with_reducible show wpAny _ _ (call (Value.ref 466) _ _) _ _ _); k_dflt (refine wpAny_call ?_; refine' m_entries (by k_asm) (by k_asm) (by k_asm) (by k_asm) (by k_asm) (by first | exact rfl | assumption) (by walk_at "my:room") (by walk_at "my:room") (by walk_at "my:hm") (by walk_at "my:dir") (by k_mem) he hz ?_; k_whole); intro t9 di9 fi9 sp9 nt9 nd9 nf9 ns9 h9 tk9 F9 N9; (try dsimp only); (try k_fold)) | fail)) | fail))
  have hs1 := Hd.mk (Nat.le_trans (shown_len ents) hz.out)
  have hs2 : Hd ((sel 0 ents).length + (sel 1 ents).length ≤ 64) := ⟨by have h := hs1.out; have e := congrArg List.length (shown_vals ents); rw [List.length_append, List.length_map] at e; exact Nat.le_trans (Nat.le_of_eq e) h⟩
  (k_with "binaryOp Add ref ref" => (first | ((have q9 : SMk 23 := (by with_reducible assumption)); clear q9; (first | (k_here; (with_reducible show wpAny _ _ (binaryOp Operator.Add (Value.ref _) (Value.ref _)) _ _ _); k_dflt (refine' kmk_add_lit (by k_asm) (by k_asm) (list_in (by k_asm) (by k_mem)) (list_in (by k_asm) (by k_mem)) (shown_vals ents) ?_ (by rw [PySem.sizeLine_eq]; exact Nat.le_trans hs2.out (by decide)); k_whole); intro D9 h9 F9 N9 l9; (try k_lt l9); (try dsimp only); (try k_fold)) | fail)) | fail))
  (k_with "exec Assign cons ListComp" => (first | ((have q9 : SMk 23 := (by with_reducible assumption)); clear q9; (first | (k_here; k_dflt (refine Assign_ListComp_U (F₀ := by k_asm) (by rfl) (by with_unfolding_all rfl) (by with_unfolding_all rfl) (by decide) (by rfl) (by decide) (by rfl) (by rfl) (by rfl) ?_)) | fail)) | fail))
  (k_with "CompSrc" => (first | ((have q9 : SMk 23 := (by with_reducible assumption)); clear q9; (first | (refine CompSrc.ledger rfl (by k_asm) (by k_asm) (by k_mem) (by rw [List.size_toArray, List.length_map, PySem.sizeLine_eq]; exact Nat.le_trans hs1.out (by decide)) ?_; intro g9; refine rest_map (as := shown ents) (iv := fun e v => v = Value.ref e.x) (G := fun e v => ∃ t, v = .str (nameT e.b) t) (by rw [List.size_toArray, List.length_map]) (fun i v h => by rw [List.getElem?_toArray] at h; obtain ⟨e, h1, h2⟩ := map_at h; exact ⟨e, h1, h2.symm⟩) ?t9 ?_; (case' t9 => intro e9 v9 I9 oI9 C9 oC9 D9 m9 ys9 h9 tk9 E9 he9 hv9 hC9 hm9 F9 N9 off9 ne9; (have hE9 := he e9 (shown_in he9)); (have hn9 := hE9.2.1); (replace hE9 := hE9.1); (refine hE9.elim ?_); intro dx' dl' e8' d8' S' w1 w2 w3 w4 par' u1' u2' u3' u4' u5' u6' u7' u8' u9' u10' u11' u12' u13' u14' u15' u16' u17' u18' r1' r2' r3' r4' r5' r6' r7' r8' r9' r10' r11' r12' k1 k2 _ _ _; (rw [hv9] at hm9))) | fail)) | fail))
  (k_with "CompEnd" => (first | ((have q9 : SMk 23 := (by with_reducible assumption)); clear q9; (first | exact compEnd (by k_asm) (by k_asm) (by assumption) (by exact .inr ⟨_, by k_mem, rfl, _, rfl⟩) ⟨rfl, _, rfl⟩ | fail)) | fail))
  (k_with "FinA" => (first | ((have q9 : SMk 23 := (by with_reducible assumption)); clear q9; (first | (unfold LCg.FinA; intro D8 h8 tk8 F8 N8 off8; (rename Rel2 _ _ _ => r8); (rename List Value => ys8); (have ne8 := off1_ne _ off8 (234, tabObj ps) (by k_mem)); clear off8; (try dsimp only); (try k_fold)) | fail)) | fail))
  (k_with "exec FunctionDef" => (first | ((have q9 : SMk 23 := (by with_reducible assumption)); clear q9; (first | (k_here; k_dflt (refine' nestDef_K (by exact rfl) (by exact rfl) (by exact rfl) ?_; refine' m_nest (ps := ps) (rest := (D8, lst ys8) :: rest) (by k_asm) (by k_asm) (by k_asm) (code_mk (by k_asm)) (by exact rfl) (by k_mem) ?hs9 ?hne9 ?hps9 (by exact rfl) ?_; k_whole); (case hs9 => intro q9 hq9; (rcases List.mem_cons.mp hq9 with rfl | hq9); k_mem; (have hq8 := hs _ hq9); walk_at "my:up"); (case hne9 => intro q9 hq9; (rcases List.mem_cons.mp hq9 with rfl | hq9); exact Ne.symm ne8; exact hne _ hq9); (case hps9 => (rcases hps with q | ⟨c8, oc8, vs8, t8, q1, q2, q3, q4⟩); exact .inl q; exact .inr ⟨c8, oc8, vs8, t8, q1, .tail _ q2, q3, q4⟩); intro f9 c9 oc9 vs9 t9 ct9 dc9 h9 tk9 F9 N9 d19 d29 ne9 or9; (try dsimp only); (try k_fold)) | fail)) | fail))
  (k_with "call builtin:str.upper" => (first | ((have q9 : SMk 23 := (by with_reducible assumption)); clear q9; (first | (k_here; refine SC.upper (fit_upper (by omega)) ?_; rw [hup]) | fail)) | fail))
  (k_with "call builtin:str.strip" => (first | ((have q9 : SMk 23 := (by with_reducible assumption)); clear q9; (first | (k_here; refine SC.strip ?_ ?hz9; (case hz9 => rw [PySem.sizeLine_eq]; first | exact Nat.le_trans (Nat.le_trans (_root_.PyProof.Txt.length_slice_le a9 (some 0) (some 8)) y9) (by decide) | exact Nat.le_trans (Nat.le_trans (_root_.PyProof.Txt.length_slice_le b9 (some 1) (some 4)) z9) (by decide)); intro t9 k9; first | rw [← hy1] | rw [← hy2]) | fail)) | fail))
  (k_with "call ref" => (first | ((have q9 : SMk 23 := (by with_reducible assumption)); clear q9; (first | (k_here; (with_reducible show wpAny _ _ (call (Value.ref 102) _ _) _ _ _); k_dflt (refine' c_encm (by first | exact Nat.le_trans ly1 (by decide) | exact Nat.le_trans ly2 (by decide)) (by with_reducible assumption) (by k_asm) (by k_asm) (by k_asm) (by k_asm) (by k_asm) (by first | exact rfl | assumption) (by walk_at "my:room") (by walk_at "my:room") ?_; k_whole); intro t9 h9 tk9 F9 N9; (try dsimp only); (try k_fold)) | fail)) | fail))
  (k_with "call ref" => (first | ((have q9 : SMk 23 := (by with_reducible assumption)); clear q9; (first | (k_here; (with_reducible show wpAny _ _ (call (Value.ref 119) _ _) _ _ _); k_dflt (refine' c_split hu1 hu2 (by k_asm) (by k_asm) (by k_asm) (by k_asm) (by k_asm) (by first | exact rfl | assumption) (by walk_at "my:room") (by walk_at "my:room") ?_; k_whole); intro l9 a9 b9 t19 t29 h9 tk9 sp9 F9 N9; (refine hideG fun Z hZ => ?_); (obtain ⟨y9, z9⟩ := split_len hu1 sp9); (obtain ⟨⟨y1, hy1, ly1, cy1, my1⟩, y2, hy2, ly2, cy2, my2⟩ := hcut _ _ sp9); (refine hZ ?_); clear hZ Z; (try dsimp only); (try k_fold)) | fail)) | fail))
  (k_with "callWith ref" => (first | ((have q9 : SMk 23 := (by with_reducible assumption)); clear q9; (first | (k_here; (with_reducible show wpAny _ _ (callWith _ (Value.ref f9) _ _ _) _ _ _); k_dflt (refine' callWith_F ?k1 ?_; (case k1 => exact FnAt.of (by k_asm) (by k_mem)); k_whole)) | fail)) | fail))
  (k_with "call ref" => (first | ((have q9 : SMk 23 := (by with_reducible assumption)); clear q9; (first | (k_here; (with_reducible show wpAny _ _ (call (Value.ref f9) _ _) _ _ _); k_dflt (refine' c_map (by k_asm) (by k_asm) (by k_asm) (by k_asm) (by k_asm) (by first | exact rfl | assumption) (by walk_at "my:room") (by walk_at "my:room") (by k_mem) (by k_mem) d19 d29 (by rw [encS_size]; first | exact Nat.le_trans ly1 (by decide) | exact Nat.le_trans ly2 (by decide)) ?_; k_whole); intro b8 t8 h8 tk8 eb8 F8 N8; (obtain ⟨w8, hw8⟩ : ∃ w8, w8 = decT b8 := ⟨_, rfl⟩); (first | (have hbs : Mine.T w8 = bs := (by rw [hw8]; exact my1.out _ eb8); have lw8 : w8.length ≤ 8 := (by rw [← T_len, hbs]; exact hw.bl); have lb8 := mapU_size eb8 (Nat.le_trans ly1 (by decide))) | (have hes : Mine.T w8 = es := (by rw [hw8]; exact my2.out _ eb8); have lw9 : w8.length ≤ 3 := (by rw [← T_len, hes]; exact hw.el); have lb8 := mapU_size eb8 (Nat.le_trans ly2 (by decide)))); (try dsimp only); (try k_fold)) | fail)) | fail))
  (k_with "call ref" => (first | ((have q9 : SMk 23 := (by with_reducible assumption)); clear q9; (first | (k_here; (with_reducible show wpAny _ _ (call (Value.ref 107) _ _) _ _ _); k_dflt (refine' c_dec lb8 (by k_asm) (by k_asm) (by k_asm) (by k_asm) (by k_asm) (by first | exact rfl | assumption) (by walk_at "my:room") (by walk_at "my:room") ?_; k_whole); intro t9 h9 tk9 F9 N9; (rw [← hw8]); (try dsimp only); (try k_fold)) | fail)) | fail))
  (k_with "subscriptTail" => (first | ((have q9 : SMk 23 := (by with_reducible assumption)); clear q9; (first | (walk_at "my:itemT") | fail)) | fail))
  (k_with "subscriptTail Call" => (first | ((have q9 : SMk 23 := (by with_reducible assumption)); clear q9; (first | (walk_at "my:itemT") | fail)) | fail))
  (k_with "exec If" => (first | ((have q9 : SMk 23 := (by with_reducible assumption)); clear q9; (first | (k_here; (with_reducible show wpAny _ _ (exec mkIf _) _ _ _); k_dflt (refine' st_ext (by k_asm) (by k_asm) (by k_asm) (by k_asm) (by k_asm) (by walk_at "my:room") (by walk_at "my:room") (by exact rfl) (by exact rfl) (Nat.le_trans lw9 (by decide)) ?_; k_whole); intro sp9 ts9 h9 tk9 esp9 F9 N9; (rw [hes] at esp9); (try dsimp only); (try k_fold)) | fail)) | fail))
  (k_with "exec While Compare cons nil" => (first | ((have q9 : SMk 23 := (by with_reducible assumption)); clear q9; (first | (k_here; (with_reducible show wpAny _ _ (exec mkWh _) _ _ _); k_dflt (refine' st_while (by k_asm) (by k_asm) (by k_asm) (by k_asm) (by k_asm) (by walk_at "my:room") (by walk_at "my:room") (by exact rfl) (by exact rfl) (by exact rfl) (by exact rfl) (by exact rfl) (by k_mem) (Rel2.strs r8) hbs hes esp9 hw ?_; k_whole); intro v9 t9 j9 h9 tk9 m9 v1 v2 v3 v4 F9 N9; (try dsimp only); (try k_fold)) | fail)) | fail))
  k_steps
  refine ret v9 _ j9 c9 oc9 vs9 _ _ _ v1 v2 v3 v4 (by k_asm) (by walk_at "my:n") d19 d29 ne9 ?_
  rcases or9 with or9 | ⟨or9, ep9⟩
  · exact .inl fun q hq => or9 q (.tail _ hq)
  · rcases List.mem_cons.mp or9 with q | q
    · have e9 : oc9 = lst ys8 := congrArg Prod.snd q
      rw [e9] at d19
      cases d19
    · exact .inr ⟨q, ep9⟩
/-! ## walks from a stack that holds no call that keeps a bytearray, with an end of a raise -/
def wpE {α : Type} (M : Model) (A : Around) (t : Sem α) (Q : α → Shared → Prop) (E : Value → Shared → Prop) (s : Shared) : Prop :=
  ∀ Γ p, Γ.In A → calm Γ.code = true → Calm Γ → Sem.wp M Γ t (fun a _ s' => Q a s') (fun e _ s' => E e s') p s
section
variable {α β : Type} {M : Model} {A : Around}
theorem wpE_of {t : Sem α} {Q : α → Shared → Prop} (h : wpAny M A t Q E s) : wpE M A t Q E s := fun Γ p hΓ _ _ => h Γ p hΓ
theorem wpE_ofC {t : Sem α} {Q : α → Shared → Prop} (h : wpC M A t Q s) : wpE M A t Q E s := fun Γ p hΓ c1 c2 => Sem.wp_mono M Γ t (fun _ _ _ x => x) (fun _ _ _ x => x.elim) p s (h Γ p hΓ c1 c2)
theorem wpC_ofE {t : Sem α} {Q : α → Shared → Prop} (h : wpE M A t Q (fun _ _ => False) s) : wpC M A t Q s := h
theorem wpE_mono {t : Sem α} {Q Q' : α → Shared → Prop} {E' : Value → Shared → Prop} (h : wpE M A t Q E s) (hQ : ∀ a s, Q a s → Q' a s) (hE : ∀ e s, E e s → E' e s) : wpE M A t Q' E' s :=
  fun Γ p hΓ c1 c2 => Sem.wp_mono M Γ t (fun a _ s => hQ a s) (fun e _ s => hE e s) p s (h Γ p hΓ c1 c2)
theorem wpE_bind {m : Sem α} {f : α → Sem β} {Q : β → Shared → Prop} (h : wpE M A m (fun a s' => wpE M A (f a) Q E s') E s) : wpE M A (m >>= f) Q E s := fun Γ p hΓ c1 c2 => by
  rw [Sem.wp_bind']
  exact Sem.wp_mono M Γ m (fun a p' s' h' => h' Γ p' hΓ c1 c2) (fun _ _ _ h' => h') p s (h Γ p hΓ c1 c2)
theorem wpE_pure {a : α} {Q : α → Shared → Prop} (h : Q a s) : wpE M A (pure a) Q E s := fun _ _ _ _ _ => h
theorem wpE_attempt {m : Sem α} {Q : Except Value α → Shared → Prop} (h : wpE M A m (fun a => Q (.ok a)) (fun e => Q (.error e)) s) : wpE M A m.attempt Q E s := fun Γ p hΓ c1 c2 => by
  rw [Sem.wp_attempt]; exact h Γ p hΓ c1 c2
theorem wpE_holding {vs : List Value} {m : Sem α} {Q : α → Shared → Prop} (h : wpE M A m Q E s) : wpE M A (holding vs m) Q E s := fun Γ p hΓ c1 c2 => by rw [Sem.wp_holding]; exact h Γ p hΓ c1 c2
theorem wpE_standAt {pos : Pos} {Q : Unit → Shared → Prop} (h : Q () s) : wpE M A (standAt pos) Q E s := wpE_of (wpAny_standAt h)
theorem wpE_keep {vs : List Value} {t : Sem α} {Q : α → Shared → Prop} (h : wpE M A t Q E s) : wpE M A (t.keep vs) Q E s := fun Γ p hΓ c1 c2 => by rw [Sem.wp_keep]; exact h Γ p hΓ c1 c2
theorem wpE_execs_cons {env : Env} {st : Stmt} {rest : List Stmt} {Q : Flow → Shared → Prop} (h : wpE M A (exec st env) (fun f s' => match f with | .next => wpE M A (execs rest env) Q E s' | f => Q f s') E s) : wpE M A (execs (st :: rest) env) Q E s := by
  rw [execs_cons]
  refine wpE_bind (wpE_mono h (fun f s' h' => ?_) fun _ _ x => x)
  cases f <;> first | exact h' | exact wpE_pure h'
theorem wpE_execs_nil {env : Env} {Q : Flow → Shared → Prop} (h : Q .next s) : wpE M A (execs [] env) Q E s := fun _ _ _ _ _ => h
/-- a try with except clauses: its body may raise -/
theorem wpC_Try {env : Env} {body orelse : List Stmt} {e₀ : ExceptHandler} {hs : List ExceptHandler} {pos : Pos} {Q : Flow → Shared → Prop}
    (h : wpE M A (execs body env) (fun f s₁ => match f with | .next => wpC M A (execs orelse env) Q s₁ | f => Q f s₁)
      (fun e s₁ => wpAny M A (noteFrame e env) (fun _ s₂ => wpAny M A (setFlight e none) (fun _ s₃ => wpAny M A (handleBy e env (e₀ :: hs)) Q (fun _ _ => False) s₃) (fun _ _ => False) s₂) (fun _ _ => False) s₁) s) :
    wpC M A (exec (.Try body (e₀ :: hs) orelse [] pos) env) Q s := by
  rw [arm_exec_Try]
  refine wpC_bind (wpC_standAt ?_)
  unfold tryStmt
  simp only [List.isEmpty_nil, if_true, List.isEmpty_cons, Bool.false_and, Bool.false_eq_true, if_false]
  refine wpC_ofE (wpE_bind (wpE_attempt (wpE_mono h (fun f s₁ h₁ => ?_) fun e s₁ h₁ => ?_)))
  · cases f <;> first | exact wpE_ofC h₁ | exact wpE_pure h₁
  · exact wpE_of (wpAny_bind (wpAny_mono h₁ (fun _ _ h₂ => wpAny_bind h₂) fun _ _ x => x))
theorem wpE_Expr {env : Env} {e : PySem.Expr} {pos : Pos} {Q : Flow → Shared → Prop} (h : wpE M A (eval e env) (fun v s' => match v with | .ref _ => False | _ => Q .next s') E s)
    (hi : interactive env = false := by rfl) (hs : swapsWith e none pos.line env = pure false := by rfl) : wpE M A (exec (.Expr e pos) env) Q E s := by
  rw [exec_Expr env e pos hi hs]
  refine wpE_bind (wpE_standAt (wpE_bind (wpE_mono h (fun v s' h' => ?_) fun _ _ x => x)))
  have hv : ∀ a, v ≠ .ref a := fun a hva => by subst hva; exact h'
  rw [dropValue_plain hv]
  refine wpE_pure ?_
  cases v <;> first | exact h' | exact (hv _ rfl).elim
theorem wpE_method {env : Env} {o : PySem.Expr} {name : Str} {apos pos : Pos} {args : List PySem.Expr} {pl : Sem Bool} {Q : Value → Shared → Prop}
    (h : wpAny M A (eval o env) (fun ov s₁ => wpAny M A (getMethod ov name pl) (fun fx s₂ => wpE M A (callWith pos fx.1 fx.2 (backTo pos (starEach args env)) []) Q E s₂) (fun _ _ => False) s₁) (fun _ _ => False) s)
    (he : eval (.Call (.Attribute o name apos) args [] pos) env = (do
      let ov ← eval o env
      standAt apos.atName
      let (f, first) ← holding [ov] (getMethod ov name pl)
      callWith pos f first (backTo pos (starEach args env)) (backToKw pos (keywordEach [] env))) := by rfl) :
    wpE M A (eval (.Call (.Attribute o name apos) args [] pos) env) Q E s := by
  rw [he]
  exact wpE_bind (wpE_ofC (wpC_of (wpAny_mono h (fun ov s₁ h₁ => wpE_bind (wpE_standAt (wpE_bind (wpE_ofC (wpC_of (wpAny_holding (wpAny_mono h₁ (fun fx s₂ h₂ => h₂) fun _ _ x => x))))))) fun _ _ x => x)))
theorem wpE_spliced_nil {Q : List Value → Shared → Prop} (h : Q [] s) : wpE M A (spliced []) Q E s := wpE_pure h
theorem wpE_spliced_cons {x : Sem Value} {rest : List (Bool × Sem Value)} {Q : List Value → Shared → Prop}
    (h : wpE M A x (fun v s₁ => wpE M A (spliced rest) (fun vs s₂ => Q (v :: vs) s₂) E s₁) E s) : wpE M A (spliced ((false, x) :: rest)) Q E s := by
  rw [spliced]
  refine wpE_bind (wpE_mono h (fun v s₁ h₁ => ?_) fun _ _ x => x)
  simp only [Bool.false_eq_true, if_false]
  exact wpE_bind (wpE_pure (wpE_bind (wpE_holding (wpE_mono h₁ (fun vs s₂ h₂ => wpE_pure h₂) fun _ _ x => x))))
theorem callWith_E {env : Env} {P : Heap → Prop} {pos : Pos} {f : Value} {first : List Value} {e : PySem.Expr} {rest : List PySem.Expr} {Q : Value → Shared → Prop}
    (hk : ∀ h, P h → ∃ k, (k = Keeper.frame ∨ k = Keeper.machine ∨ k = Keeper.boundFrame) ∧ Looks M h (keeperOf f) k)
    (h : wpE M A (spliced (backTo pos (starEach (e :: rest) env))) (fun vs s₁ => P s₁.heap ∧ wpE M A (call f (first ++ vs)) Q E s₁) E s)
    (he : starEach (e :: rest) env = (false, eval e env) :: starEach rest env := by rfl) (hplain : (backTo pos (starEach rest env)).any (·.1) = false := by rfl) :
    wpE M A (callWith pos f first (backTo pos (starEach (e :: rest) env)) []) Q E s := by
  rw [he] at h ⊢
  have hp : ((backTo pos ((false, eval e env) :: starEach rest env)).any (·.1) || ([] : List (Option Str × Sem Value)).any (·.1.isNone)) = false := by
    show ((false || (backTo pos (starEach rest env)).any (·.1)) || false) = false
    rw [hplain]; rfl
  unfold callWith
  refine wpE_bind (wpE_holding ?_)
  unfold evalArgs
  show wpE M A (spliced (backTo pos ((false, eval e env) :: starEach rest env)) >>= _) _ _ _
  refine wpE_bind (wpE_mono h (fun vs s₁ h₁ => wpE_holding (wpE_bind (wpE_pure (wpE_bind (wpE_pure (wpE_pure ?_)))))) fun _ _ x => x)
  refine wpE_bind (wpE_standAt ?_)
  obtain ⟨k, hk', L⟩ := hk _ h₁.1
  simp only [hp]
  refine wpE_bind (wpE_of (L.here ?_))
  have tail : ∀ {t : Sem Value}, wpE M A t Q E s₁ → wpE M A (t >>= fun r => holding [r] point >>= fun _ => pure r) Q E s₁ :=
    fun ht => wpE_bind (wpE_mono ht (fun r s₂ hr => wpE_bind (wpE_of (wpAny_holding (wpAny_point (wpE_pure hr))))) fun _ _ x => x)
  have marked (mk : Value) : wpE M A (callMarked mk f (first ++ vs) []) Q E s₁ := by unfold callMarked; exact wpE_keep h₁.2
  rcases hk' with rfl | rfl | rfl <;> dsimp only <;> first | exact tail h₁.2 | (split <;> first | exact tail h₁.2 | exact tail (marked _))
end
/-! ## plain laws: the parts of a long name -/
def fin (l : List Nat) : List Nat := (l.map mapS).filter fun c => c != 32
theorem fin_one (c : Nat) : fin [c] = if mapS c ≠ 32 then [mapS c] else [] := by
  unfold fin
  rw [List.map_cons, List.map_nil, List.filter_cons]
  by_cases h : mapS c = 32
  · rw [if_neg (by simp [h]), if_neg (by simp [h])]; rfl
  · rw [if_pos (by simpa using h), if_pos h]; rfl
theorem fin_app (a b : List Nat) : fin (a ++ b) = fin a ++ fin b := by
  unfold fin
  rw [List.map_append, List.filter_append]
theorem fin_snoc (l : List Nat) (c : Nat) : fin (l ++ [c]) = if mapS c ≠ 32 then fin l ++ [mapS c] else fin l := by
  rw [fin_app, fin_one]
  split
  · rfl
  · rw [List.append_nil]
theorem bt_fst (l : List Nat) (sq : Nat) : ∀ i, (bt l sq i).1 = fin (l.take (min i (min sq 8)))
  | 0 => by rw [Nat.zero_min, List.take_zero]; rfl
  | i + 1 => by
    have ih := bt_fst l sq i
    cases h : l[i]? with
    | none =>
      have hl : l.length ≤ i := List.getElem?_eq_none_iff.mp h
      have e : bt l sq (i + 1) = bt l sq i := by show (match l[i]? with | none => _ | some c => _) = _; rw [h]
      rw [e, ih]
      by_cases q : i < min sq 8
      · rw [Nat.min_eq_left (Nat.le_of_lt q), Nat.min_eq_left q, List.take_of_length_le hl, List.take_of_length_le (Nat.le_succ_of_le hl)]
      · rw [Nat.min_eq_right (Nat.le_of_not_lt q), Nat.min_eq_right (Nat.le_succ_of_le (Nat.le_of_not_lt q))]
    | some c =>
      rw [bt_next h, ih]
      show (if mapS c ≠ 32 ∧ i < sq ∧ i < 8 then _ else _) = _
      by_cases q : i < sq ∧ i < 8
      · have q' : i < min sq 8 := by omega
        rw [Nat.min_eq_left (Nat.le_of_lt q'), Nat.min_eq_left q', List.take_add_one, h]
        show _ = fin (_ ++ [c])
        rw [fin_snoc]
        by_cases r : mapS c = 32
        · rw [if_neg (fun z => z.1 r), if_neg (fun z => z r)]
        · rw [if_pos ⟨r, q⟩, if_pos r]
      · have q' : ¬ i < min sq 8 := by omega
        rw [if_neg (fun z => q z.2), Nat.min_eq_right (Nat.le_of_not_lt q'), Nat.min_eq_right (Nat.le_succ_of_le (Nat.le_of_not_lt q'))]
theorem bt_snd (l : List Nat) (sq : Nat) : ∀ i, (bt l sq i).2 = fin ((l.take (min i (sq + 4))).drop (sq + 1))
  | 0 => by rw [Nat.zero_min, List.take_zero, List.drop_nil]; rfl
  | i + 1 => by
    have ih := bt_snd l sq i
    cases h : l[i]? with
    | none =>
      have hl : l.length ≤ i := List.getElem?_eq_none_iff.mp h
      have e : bt l sq (i + 1) = bt l sq i := by show (match l[i]? with | none => _ | some c => _) = _; rw [h]
      rw [e, ih]
      by_cases q : i < sq + 4
      · rw [Nat.min_eq_left (Nat.le_of_lt q), Nat.min_eq_left q, List.take_of_length_le hl, List.take_of_length_le (Nat.le_succ_of_le hl)]
      · rw [Nat.min_eq_right (Nat.le_of_not_lt q), Nat.min_eq_right (Nat.le_succ_of_le (Nat.le_of_not_lt q))]
    | some c =>
      rw [bt_next h, ih]
      show (if mapS c ≠ 32 ∧ sq < i ∧ i ≤ sq + 3 then _ else _) = _
      have hi : i < l.length := (List.getElem?_eq_some_iff.mp h).1
      by_cases q : sq < i ∧ i ≤ sq + 3
      · have q' : i < sq + 4 := by omega
        rw [Nat.min_eq_left (Nat.le_of_lt q'), Nat.min_eq_left q', List.take_add_one, h]
        show _ = fin ((_ ++ [c]).drop _)
        rw [List.drop_append_of_le_length (by rw [List.length_take]; omega), fin_snoc]
        by_cases r : mapS c = 32
        · rw [if_neg (fun z => z.1 r), if_neg (fun z => z r)]
        · rw [if_pos ⟨r, q⟩, if_pos r]
      · rw [if_neg (fun z => q z.2)]
        by_cases q' : i < sq + 4
        · have hq : i ≤ sq := Nat.le_of_not_lt fun z => q ⟨z, Nat.le_of_lt_succ q'⟩
          rw [List.drop_eq_nil_of_le (Nat.le_trans (List.length_take_le _ _) (Nat.le_trans (Nat.min_le_left i (sq + 4)) (Nat.le_succ_of_le hq))), List.drop_eq_nil_of_le (Nat.le_trans (List.length_take_le _ _) (Nat.le_trans (Nat.min_le_left (i + 1) (sq + 4)) (Nat.succ_le_succ hq)))]
        · rw [Nat.min_eq_right (Nat.le_of_not_lt q'), Nat.min_eq_right (Nat.le_succ_of_le (Nat.le_of_not_lt q'))]
/-- the place of the dot that cuts -/
def cut (l : List Nat) : Nat := (sp l l.length).2
def mB (l : List Nat) : List Nat := fin (l.take (min (cut l) 8))
def mE (l : List Nat) : List Nat := fin ((l.drop (cut l + 1)).take 3)
theorem bt_mB (l : List Nat) : (bt l (cut l) l.length).1 = mB l := by
  rw [bt_fst]
  unfold mB
  have := sp_le l l.length (Nat.le_refl _)
  unfold cut
  rw [Nat.min_eq_right (a := l.length) (by omega)]
theorem bt_mE (l : List Nat) : (bt l (cut l) l.length).2 = mE l := by
  rw [bt_snd]
  unfold mE
  have e : (l.take (min l.length (cut l + 4))).drop (cut l + 1) = (l.drop (cut l + 1)).take 3 := by
    rw [List.drop_take]
    by_cases h : l.length ≤ cut l + 4
    · rw [Nat.min_eq_left h, List.take_of_length_le (by rw [List.length_drop]; omega), List.take_of_length_le (by rw [List.length_drop]; omega)]
    · rw [Nat.min_eq_right (Nat.le_of_not_le h)]
      congr 1
      omega
  rw [e]
/-! ## plain laws: make_8dot3_name's cut is the law's -/
theorem up_dot (c : Nat) : up1 c = 46 ↔ c = 46 := by
  unfold up1
  split <;> omega
theorem sp_map (l : List Nat) : ∀ i, sp (l.map up1) i = sp l i
  | 0 => by show (false, (l.map up1).length) = (false, l.length); rw [List.length_map]
  | i + 1 => by
    have ih := sp_map l i
    have e : ((l.map up1)[i]? = some 46) ↔ (l[i]? = some 46) := by
      rw [List.getElem?_map]
      cases l[i]? with
      | none => exact ⟨fun h => (by cases h), fun h => (by cases h)⟩
      | some c => exact ⟨fun h => (by rw [(up_dot c).mp (Option.some.inj h)]), fun h => (by rw [Option.map_some, (up_dot c).mpr (Option.some.inj h)])⟩
    show (if (l.map up1)[i]? = some 46 then _ else _) = (if l[i]? = some 46 then _ else _)
    by_cases h : l[i]? = some 46
    · rw [if_pos h, if_pos (e.mpr h), ih]
    · rw [if_neg h, if_neg (fun q => h (e.mp q)), ih]
theorem cut_map (l : List Nat) : cut (l.map up1) = cut l := by
  unfold cut
  rw [sp_map, List.length_map]
theorem sp_seen (l : List Nat) : ∀ i, (sp l i).1 = true ↔ ∃ j, j < i ∧ l[j]? ≠ some 46
  | 0 => ⟨fun h => (by cases h), fun ⟨j, h, _⟩ => absurd h (Nat.not_lt_zero _)⟩
  | i + 1 => by
    have ih := sp_seen l i
    show (if l[i]? = some 46 then (if (sp l i).1 = true then (true, i) else sp l i) else (true, (sp l i).2)).1 = true ↔ _
    by_cases h : l[i]? = some 46
    · rw [if_pos h]
      by_cases q : (sp l i).1 = true
      · rw [if_pos q]
        obtain ⟨j, h1, h2⟩ := ih.mp q
        exact ⟨fun _ => ⟨j, by omega, h2⟩, fun _ => rfl⟩
      · rw [if_neg q]
        refine ⟨fun r => absurd r q, fun ⟨j, h1, h2⟩ => absurd (ih.mpr ⟨j, ?_, h2⟩) q⟩
        by_cases z : j = i
        · rw [z] at h2; exact absurd h h2
        · omega
    · rw [if_neg h]
      exact ⟨fun _ => ⟨i, Nat.lt_succ_self _, h⟩, fun _ => rfl⟩
theorem sp_const (l : List Nat) (a : Nat) : ∀ n, (∀ j, a ≤ j → j < a + n → ¬ (l[j]? = some 46 ∧ (sp l j).1 = true)) → (sp l (a + n)).2 = (sp l a).2
  | 0, _ => rfl
  | n + 1, h => by
    have ih := sp_const l a n (fun j h1 h2 => h j h1 (by omega))
    show (if l[a + n]? = some 46 then (if (sp l (a + n)).1 = true then (true, a + n) else sp l (a + n)) else (true, (sp l (a + n)).2)).2 = _
    by_cases q : l[a + n]? = some 46
    · rw [if_pos q, if_neg (fun r => h (a + n) (Nat.le_add_right _ _) (by omega) ⟨q, r⟩)]
      exact ih
    · rw [if_neg q]
      exact ih
theorem cut_at {l : List Nat} {k : Nat} (hk : l[k]? = some 46) (hs : ∃ j, j < k ∧ l[j]? ≠ some 46) (hn : ∀ j, k < j → l[j]? ≠ some 46) : cut l = k := by
  have hl : k < l.length := (List.getElem?_eq_some_iff.mp hk).1
  unfold cut
  obtain ⟨n, e⟩ : ∃ n, l.length = (k + 1) + n := ⟨l.length - (k + 1), by omega⟩
  rw [e, sp_const l (k + 1) n (fun j h1 _ q => hn j (by omega) q.1)]
  rw [sp_dot hk ((sp_seen l k).mpr hs)]
theorem cut_none {l : List Nat} (h : ∀ k : Nat, l[k]? = some 46 → ¬ ∃ j : Nat, j < k ∧ l[j]? ≠ some 46) : cut l = l.length := by
  unfold cut
  have := sp_const l 0 l.length (fun j _ _ q => h j q.1 ((sp_seen l j).mp q.2))
  rw [Nat.zero_add] at this
  rw [this]
  rfl
theorem T_at (x : Str) (j : Nat) : (Mine.T x)[j]? = x.cps[j]? := Array.getElem?_toList
theorem split_cut {x a b : Str} (h : SplitIs x a b) : Mine.T a = (Mine.T x).take (cut (Mine.T x)) ∧ Mine.T b = (Mine.T x).drop (cut (Mine.T x)) := by
  have nodot : ∀ (j : Nat), ¬ (j + (Str.ofString ".").length ≤ x.length ∧ Builtin.Str.subAt x (Str.ofString ".") j = true) → x.cps[j]? ≠ some 46 := fun j hj q => hj ⟨(Array.getElem?_eq_some_iff.mp q).1, subAt_one.mpr q⟩
  rcases rfind_spec x (Str.ofString ".") with ⟨k, e, hk, hs, hn⟩ | ⟨e, hn⟩
  · have hd : (Mine.T x)[k]? = some 46 := (T_at x k).trans (subAt_one.mp hs)
    have hlast : ∀ j, k < j → (Mine.T x)[j]? ≠ some 46 := fun j hj q => by
      rw [T_at] at q
      exact nodot j (hn j hj (Nat.le_of_lt (Array.getElem?_eq_some_iff.mp q).1)) q
    rcases h with ⟨⟨j, h1, h2⟩, ea, eb⟩ | ⟨h1, ea, eb⟩
    · rw [e] at h1 ea eb
      have hc := cut_at hd ⟨j, by omega, by rw [T_at]; exact h2⟩ hlast
      rw [hc, ea, eb, T_slN, T_slF x k (Nat.le_of_succ_le hk)]
      exact ⟨rfl, rfl⟩
    · rw [e] at h1
      have hc : cut (Mine.T x) = (Mine.T x).length := cut_none fun i hi ⟨j, q1, q2⟩ => by
        by_cases z : i ≤ k
        · rw [T_at] at q2
          exact q2 (h1 j (by omega))
        · exact hlast i (by omega) hi
      rw [hc, ea, eb, List.take_length, List.drop_length]
      exact ⟨rfl, rfl⟩
  · rcases h with ⟨⟨j, h1, _⟩, _⟩ | ⟨_, ea, eb⟩
    · rw [e] at h1; omega
    · have hc : cut (Mine.T x) = (Mine.T x).length := cut_none fun i hi _ => by
        rw [T_at] at hi
        exact nodot i (hn i (Nat.le_of_lt (Array.getElem?_eq_some_iff.mp hi).1)) hi
      rw [hc, ea, eb, List.take_length, List.drop_length]
      exact ⟨rfl, rfl⟩
/-! ## plain laws: what map_chars makes of a part -/
def inv (c : Nat) : Nat := if (badC.any fun y => decide ((c : Int) = y)) = true then 95 else c
theorem signs_up : ∀ c ∈ signsC, up1 c < 128 ∧ up1 c ≠ 47 ∧ (spS ⟨#[up1 c]⟩ = true → up1 c = 32) ∧ (up1 c = 32 ↔ mapS c = 32) ∧ (up1 c ≠ 32 → inv (up1 c) = mapS c) := by decide +kernel
theorem up_fin : ∀ l : List Nat, (∀ c ∈ l, c ∈ signsC) → (((l.map up1).filter fun c => c != 32).map inv) = fin l
  | [], _ => rfl
  | c :: r, h => by
    have ih := up_fin r fun d hd => h d (.tail _ hd)
    obtain ⟨_, _, _, h4, h5⟩ := signs_up c (h c (.head _))
    show (List.filter _ (up1 c :: r.map up1)).map inv = List.filter _ (mapS c :: r.map mapS)
    rw [List.filter_cons, List.filter_cons]
    by_cases q : up1 c = 32
    · rw [if_neg (by simp [q]), if_neg (by simp [h4.mp q])]
      exact ih
    · rw [if_pos (by simpa using q), if_pos (by simpa using fun z => q (h4.mpr z)), List.map_cons, h5 q, ih]
      rfl
theorem mapU_nat : ∀ l : List Nat, (∀ c ∈ l, c < 128) → (mapU ((l.map fun (c : Nat) => (c : Int)).map fun n => n.toNat.toUInt8)).map (·.toNat) = ((l.filter fun c => c != 32).map inv)
  | [], _ => rfl
  | c :: r, h => by
    have ih := mapU_nat r fun d hd => h d (.tail _ hd)
    have hc := h c (.head _)
    have e1 : ((c : Int).toNat.toUInt8).toNat = c := by
      rw [Int.toNat_natCast]
      show c % 256 = c
      omega
    show List.map _ (List.map _ (List.filter _ ((c : Int).toNat.toUInt8 :: _))) = _
    rw [List.filter_cons, List.filter_cons]
    by_cases q : c = 32
    · subst q
      rw [if_neg (by decide), if_neg (by decide)]
      exact ih
    · have q' : ((c : Int).toNat.toUInt8) ≠ 32 := fun z => q (by have := congrArg UInt8.toNat z; rw [e1] at this; exact this)
      rw [if_pos (by simpa using q'), if_pos (by simpa using q), List.map_cons, List.map_cons, List.map_cons]
      refine Eq.trans (congrArg (fun y => List.cons y _) ?_) (congrArg (List.cons (inv c)) ih)
      unfold inv
      by_cases z : (badC.any fun y => decide ((c : Int) = y)) = true
      · rw [if_pos z, if_pos (by rw [e1]; exact z)]; rfl
      · rw [if_neg z, if_neg (by rw [e1]; exact z), e1]
theorem filter_ends {l : List Nat} {lo hi : Nat} (h1 : ∀ k, k < lo → l.getD k 0 = 32) (h2 : ∀ k, hi ≤ k → k < l.length → l.getD k 0 = 32) (h : lo ≤ hi) (hl : hi ≤ l.length) : ((l.drop lo).take (hi - lo)).filter (fun c => c != 32) = l.filter fun c => c != 32 := by
  have e : l = l.take lo ++ ((l.drop lo).take (hi - lo) ++ l.drop hi) := by
    rw [← List.drop_take]
    have a : (l.take hi).take lo = l.take lo := by rw [List.take_take, Nat.min_eq_left h]
    rw [← List.append_assoc, ← a, List.take_append_drop, List.take_append_drop]
  have z1 : (l.take lo).filter (fun c => c != 32) = [] := List.filter_eq_nil_iff.mpr fun c hc => by
    obtain ⟨k, hk, rfl⟩ := List.mem_iff_getElem.mp hc
    rw [List.length_take] at hk
    have := h1 k (by omega)
    rw [List.getD_eq_getElem?_getD, List.getElem?_eq_getElem (by omega)] at this
    rw [List.getElem_take]
    simpa using this
  have z2 : (l.drop hi).filter (fun c => c != 32) = [] := List.filter_eq_nil_iff.mpr fun c hc => by
    obtain ⟨k, hk, rfl⟩ := List.mem_iff_getElem.mp hc
    rw [List.length_drop] at hk
    have := h2 (hi + k) (by omega) (by omega)
    rw [List.getD_eq_getElem?_getD, List.getElem?_eq_getElem (by omega)] at this
    rw [List.getElem_drop]
    simpa using this
  conv => rhs; rw [e, List.filter_append, List.filter_append, z1, z2, List.nil_append, List.append_nil]
theorem T_strip {x : Str} (h : ∀ c ∈ Mine.T x, c < 128 ∧ (spS ⟨#[c]⟩ = true → c = 32)) : (Mine.T (Txt.strip x)).filter (fun c => c != 32) = (Mine.T x).filter fun c => c != 32 := by
  obtain ⟨lo, hi, h1, h2, e, h3, h4, _⟩ := strip_cut (x := x) (fun c hc => (h c hc).1)
  rw [e, strSub_mk]
  show (((Mine.T x).drop lo).take (hi - lo)).filter _ = _
  have at' : ∀ k, k < x.length → spS ⟨#[x.cps.getD k 0]⟩ = true → (Mine.T x).getD k 0 = 32 := fun k hk q => by
    have e1 : (Mine.T x).getD k 0 = x.cps.getD k 0 := getD_list x k
    rw [e1]
    refine (h _ ?_).2 q
    have hk' : k < x.cps.size := hk
    rw [show x.cps.getD k 0 = x.cps[k] from by simp [Array.getD, hk']]
    exact Array.mem_toList_iff.mpr (Array.getElem_mem hk')
  exact filter_ends (fun k hk => at' k (by omega) (h3 k hk)) (fun k q1 q2 => at' k (by rw [T_len] at q2; exact q2) (h4 k q1 (by rw [T_len] at q2; exact q2))) h1 (by rw [T_len]; exact h2)
theorem T_sl1 (x : Str) (k : Nat) (hk : 1 ≤ k) : Mine.T (Txt.slice x (some ((1 : Nat) : Int)) (some (k : Int))) = ((Mine.T x).drop 1).take (k - 1) := by
  by_cases h : k ≤ x.length
  · exact T_sl x 1 k hk h
  by_cases h0 : x.length = 0
  · have e : (Mine.T x) = [] := List.eq_nil_of_length_eq_zero (by rw [T_len]; exact h0)
    rw [e]
    refine Eq.trans ?_ (show ([] : List Nat) = _ by rw [List.drop_nil, List.take_nil])
    refine List.eq_nil_of_length_eq_zero (Nat.le_zero.mp ?_)
    rw [T_len, ← h0]
    exact Txt.slice_le x _ _
  · have h' : x.length ≤ k := Nat.le_of_not_le h
    have e : Txt.slice x (some ((1 : Nat) : Int)) (some (k : Int)) = Txt.slice x (some ((1 : Nat) : Int)) (some (x.length : Int)) := by
      unfold Txt.slice
      rw [sl_clip _ k x.length h']
    rw [e]
    refine Eq.trans (T_sl x 1 x.length (by omega) (Nat.le_refl _)) ?_
    rw [List.take_of_length_le (by rw [List.length_drop, T_len]; exact Nat.le_refl _), List.take_of_length_le (by rw [List.length_drop, T_len]; omega)]
theorem up_T {z u : Str} (hz : Asc z) (hu : Txt.upper z = u) : Mine.T u = (Mine.T z).map up1 := by
  rw [← hu, upper_ascii (fun c hc => by
    have := hz.out c hc
    exact (by decide : ∀ c ∈ signsC, c < 128) c this)]
  exact Array.toList_map
theorem up_len {z u : Str} (hz : Asc z) (hu : Txt.upper z = u) : u.length = z.length := by
  rw [← T_len, up_T hz hu, List.length_map, T_len]
theorem up_slash {z u : Str} (hz : Asc z) (hu : Txt.upper z = u) (j : Nat) : u.cps[j]? ≠ some 47 := fun h => by
  rw [← T_at, up_T hz hu, List.getElem?_map] at h
  cases q : (Mine.T z)[j]? with
  | none => rw [q] at h; cases h
  | some c =>
    rw [q] at h
    exact (signs_up c (hz.out c (List.mem_of_getElem? q))).2.1 (Option.some.inj h)
/-- a part of the text, cut, stripped, told by its octets -/
theorem part_ok {x : Str} {l : List Nat} {n : Nat} (hx : Mine.T x = l.map up1) (hl : ∀ c ∈ l, c ∈ signsC) (hn : l.length ≤ n) :
    ∃ y, y = Txt.strip x ∧ y.length ≤ n ∧ y.cps.all (· < 128) = true ∧ Hd (∀ e : Array UInt8, e.toList = mapU (encB y).toList → Mine.T (decT e) = fin l) := by
  have hm : ∀ c ∈ Mine.T x, c < 128 ∧ (spS ⟨#[c]⟩ = true → c = 32) := fun c hc => by
    rw [hx] at hc
    obtain ⟨d, hd, rfl⟩ := List.mem_map.mp hc
    have := signs_up d (hl d hd)
    exact ⟨this.1, this.2.2.1⟩
  have hy : ∀ c ∈ Mine.T (Txt.strip x), c < 128 := fun c hc => by
    obtain ⟨lo, hi, _, _, e, _⟩ := strip_cut (x := x) (fun c hc => (hm c hc).1)
    rw [e, strSub_mk] at hc
    exact (hm c (List.mem_of_mem_drop (List.mem_of_mem_take hc))).1
  refine ⟨_, rfl, ?_, ?_, ⟨fun e he => ?_⟩⟩
  · refine Nat.le_trans (strip_len x) ?_
    rw [← T_len, hx, List.length_map]
    exact hn
  · rw [Array.all_eq_true_iff_forall_mem]
    intro c hc
    exact decide_eq_true (hy c (Array.mem_toList_iff.mpr hc))
  · rw [T_decT, he]
    show (mapU (((Mine.T (Txt.strip x)).map fun (c : Nat) => (c : Int)).map fun n => n.toNat.toUInt8)).map (·.toNat) = _
    rw [mapU_nat _ hy, T_strip hm, hx]
    exact up_fin l hl
theorem cut_ok {z u : Str} (hz : Asc z) (hu : Txt.upper z = u) : CutOk u (mB (Mine.T z)) (mE (Mine.T z)) := by
  intro a b h
  obtain ⟨ha, hb⟩ := split_cut h
  rw [up_T hz hu, cut_map] at ha hb
  constructor
  · refine part_ok (l := (Mine.T z).take (min (cut (Mine.T z)) 8)) ?_ (fun c hc => hz.out c (List.mem_of_mem_take hc)) (Nat.le_trans (List.length_take_le _ _) (Nat.min_le_right _ _))
    have e := T_sl0 a 8
    refine e.trans ?_
    rw [ha, List.take_take, Nat.min_comm, List.map_take]
  · refine part_ok (l := ((Mine.T z).drop (cut (Mine.T z) + 1)).take 3) ?_ (fun c hc => hz.out c (List.mem_of_mem_drop (List.mem_of_mem_take hc))) (Nat.le_trans (List.length_take_le _ _) (by decide))
    have e := T_sl1 b 4 (by decide)
    refine e.trans ?_
    rw [hb, List.drop_drop, List.map_take, List.map_drop]
/-! ## plain laws: names of good signs -/
def goodC : List Nat := [45, 95, 126, 48, 49, 50, 51, 52, 53, 54, 55, 56, 57, 65, 66, 67, 68, 69, 70, 71, 72, 73, 74, 75, 76, 77, 78, 79, 80, 81, 82, 83, 84, 85, 86, 87, 88, 89, 90]
structure Good (bs es : List Nat) : Prop where
  b1 : 1 ≤ bs.length
  b8 : bs.length ≤ 8
  e3 : es.length ≤ 3
  gb : ∀ c ∈ bs, c ∈ goodC
  ge : ∀ c ∈ es, c ∈ goodC
def dotE (es : List Nat) : List Nat := if es = [] then [] else 46 :: es
def nm (bs es : List Nat) : List Nat := bs ++ dotE es
theorem mkN_nm (bs es : List Nat) (j : Nat) : mkN bs es j = nm (mkB bs j) es := rfl
theorem good_sign : ∀ c ∈ goodC, c < 128 ∧ c ≠ 46 ∧ c ≠ 47 ∧ c ≠ 32 ∧ spS ⟨#[c]⟩ = false ∧ up1 c = c ∧ (badC.any fun y => decide ((c : Int) = y)) = false ∧ c ≠ 0 ∧ c ≠ 5 := by decide +kernel
theorem map_good : ∀ c ∈ signsC, mapS c = 32 ∨ mapS c ∈ goodC := by decide +kernel
theorem fin_good {l : List Nat} (h : ∀ c ∈ l, c ∈ signsC) : ∀ c ∈ fin l, c ∈ goodC := fun c hc => by
  obtain ⟨h1, h2⟩ := List.mem_filter.mp hc
  obtain ⟨d, hd, rfl⟩ := List.mem_map.mp h1
  rcases map_good d (h d hd) with q | q
  · rw [q] at h2; cases h2
  · exact q
theorem fin_len (l : List Nat) : (fin l).length ≤ l.length := by
  unfold fin
  refine Nat.le_trans (List.length_filter_le _ _) ?_
  rw [List.length_map]
  exact Nat.le_refl _
theorem cut_nm {bs es : List Nat} (g : Good bs es) : cut (nm bs es) = bs.length := by
  unfold nm dotE
  have nodot : ∀ (l : List Nat), (∀ c ∈ l, c ∈ goodC) → ∀ j : Nat, l[j]? ≠ some 46 := fun l hl j q => (good_sign 46 (hl 46 (List.mem_of_getElem? q))).2.1 rfl
  by_cases h : es = []
  · rw [if_pos h, List.append_nil]
    exact cut_none fun k hk _ => nodot bs g.gb k hk
  · rw [if_neg h]
    refine cut_at ?_ ⟨0, g.b1, ?_⟩ fun j hj => ?_
    · rw [List.getElem?_append_right (Nat.le_refl _), Nat.sub_self]; rfl
    · rw [List.getElem?_append_left g.b1]; exact nodot bs g.gb 0
    · obtain ⟨i, rfl⟩ : ∃ i, j = bs.length + (i + 1) := ⟨j - bs.length - 1, by omega⟩
      rw [List.getElem?_append_right (Nat.le_add_right _ _), Nat.add_sub_cancel_left]
      exact nodot es g.ge i
theorem split_nm {bs es : List Nat} {v a b : Str} (g : Good bs es) (hv : Mine.T v = nm bs es) (h : SplitIs v a b) : Mine.T a = bs ∧ Mine.T b = dotE es := by
  obtain ⟨h1, h2⟩ := split_cut h
  rw [hv, cut_nm g] at h1 h2
  unfold nm at h1 h2
  rw [List.take_left] at h1
  rw [List.drop_left] at h2
  exact ⟨h1, h2⟩
theorem tail1 {es : List Nat} {b : Str} (hb : Mine.T b = dotE es) : Mine.T (Txt.slice b (some 1) none) = es := by
  unfold dotE at hb
  by_cases h : es = []
  · rw [if_pos h] at hb
    rw [h]
    refine List.eq_nil_of_length_eq_zero (Nat.le_zero.mp ?_)
    rw [T_len]
    refine Nat.le_trans (Txt.slice_le b _ _) ?_
    rw [← T_len, hb]
    exact Nat.le_refl _
  · rw [if_neg h] at hb
    refine (T_slF b 1 (by rw [← T_len, hb]; exact Nat.succ_le_succ (Nat.zero_le _))).trans ?_
    rw [hb]
    rfl
theorem strip_good {x : Str} (h : ∀ c ∈ Mine.T x, c ∈ goodC) : Txt.strip x = x := by
  have e := T_strip (x := x) (fun c hc => ⟨(good_sign c (h c hc)).1, fun q => by rw [(good_sign c (h c hc)).2.2.2.2.1] at q; cases q⟩)
  have e2 : (Mine.T x).filter (fun c => c != 32) = Mine.T x := List.filter_eq_self.mpr fun c hc => by simpa using (good_sign c (h c hc)).2.2.2.1
  rw [e2] at e
  have l1 : (Mine.T (Txt.strip x)).length ≤ (Mine.T x).length := by rw [T_len, T_len]; exact strip_len x
  have l2 := List.length_filter_le (fun c : Nat => c != 32) (Mine.T (Txt.strip x))
  rw [e] at l2
  have e3 : (Mine.T (Txt.strip x)).filter (fun c => c != 32) = Mine.T (Txt.strip x) := List.filter_sublist.eq_of_length (by rw [e]; omega)
  exact T_inj (e3.symm.trans e)
/-- a name's eleven signs -/
def pad (bs es : List Nat) : List Nat := (bs ++ List.replicate (8 - bs.length) 32) ++ (es ++ List.replicate (3 - es.length) 32)
theorem pad_len {bs es : List Nat} (g : Good bs es) : (pad bs es).length = 11 := by
  have h1 := g.b8
  have h2 := g.e3
  unfold pad
  simp only [List.length_append, List.length_replicate]
  omega
theorem pad_ascii {bs es : List Nat} (g : Good bs es) : ∀ c ∈ pad bs es, c < 128 := fun c hc => by
  unfold pad at hc
  simp only [List.mem_append, List.mem_replicate] at hc
  rcases hc with (hc | hc) | (hc | hc)
  · exact (good_sign c (g.gb c hc)).1
  · omega
  · exact (good_sign c (g.ge c hc)).1
  · omega
theorem padT_T {bs es : List Nat} {v a b : Str} (g : Good bs es) (hv : Mine.T v = nm bs es) (h : SplitIs v a b) : Mine.T (padT a b) = pad bs es := by
  obtain ⟨ha, hb⟩ := split_nm g hv h
  have h1 := tail1 hb
  unfold padT pad
  rw [strip_good (by rw [ha]; exact g.gb), strip_good (by rw [h1]; exact g.ge), T_add]
  rw [show (8 : Int) = ((8 : Nat) : Int) from rfl, show (3 : Int) = ((3 : Nat) : Int) from rfl, T_ljust, T_ljust, ha, h1, ← T_len a, ha, ← T_len (Txt.slice b (some 1) none), h1]
theorem cutR (l : List Nat) (n : Nat) (hl : l.length ≤ n) : (l ++ List.replicate n 32).take n = l ++ List.replicate (n - l.length) 32 := by
  rw [List.take_append, List.take_of_length_le hl, List.take_replicate, Nat.min_eq_left (Nat.sub_le _ _)]
theorem octT_T {bs es : List Nat} {a b : Str} (g : Good bs es) (ha : Mine.T a = bs) (hb : Mine.T b = dotE es) : Mine.T (octT a b) = pad bs es := by
  have h1 := tail1 hb
  obtain ⟨s8, hs8⟩ : ∃ y, y = Str.ofString "        " := ⟨_, rfl⟩
  obtain ⟨s3, hs3⟩ : ∃ y, y = Str.ofString "   " := ⟨_, rfl⟩
  have z8 : Mine.T s8 = List.replicate 8 32 := by rw [hs8]; decide +kernel
  have z3 : Mine.T s3 = List.replicate 3 32 := by rw [hs3]; decide +kernel
  have p1 : Mine.T (Txt.slice (a ++ s8) none (some ((8 : Nat) : Int))) = bs ++ List.replicate (8 - bs.length) 32 := by
    rw [T_slN, T_add, ha, z8, cutR bs 8 g.b8]
  have p2 : Mine.T (Txt.slice (Txt.slice b (some 1) none ++ s3) none (some ((3 : Nat) : Int))) = es ++ List.replicate (3 - es.length) 32 := by
    rw [T_slN, T_add, h1, z3, cutR es 3 g.e3]
  have e : octT a b = Txt.slice (a ++ s8) none (some ((8 : Nat) : Int)) ++ Txt.slice (Txt.slice b (some 1) none ++ s3) none (some ((3 : Nat) : Int)) := by
    unfold octT
    rw [hs8, hs3]
    rfl
  rw [e, T_add, p1, p2]
  rfl
/-! ## plain laws: a name's octets are told back -/
theorem picked8 (l : List UInt8) (h : l.length = 11) : (KBy.picked l.toArray none (some 8)).toList = l.take 8 ∧ (KBy.picked l.toArray (some 8) (some 11)).toList = (l.drop 8).take 3 := by
  match l, h with
  | [a0, a1, a2, a3, a4, a5, a6, a7, a8, a9, a10], _ => exact ⟨rfl, rfl⟩
theorem encB_list (x : Str) (h : ∀ c ∈ Mine.T x, c < 128) : (encB x).toList.map (·.toNat) = Mine.T x := by
  show (((Mine.T x).map fun (c : Nat) => (c : Int)).map fun n => n.toNat.toUInt8).map (·.toNat) = _
  rw [List.map_map, List.map_map]
  refine Eq.trans (List.map_congr_left (g := id) fun c hc => ?_) (List.map_id _)
  show ((c : Int).toNat.toUInt8).toNat = c
  rw [Int.toNat_natCast]
  show c % 256 = c
  have := h c hc
  omega
theorem rstrip_pad {x : Str} {l : List Nat} {n : Nat} (h : Mine.T x = l ++ List.replicate n 32) (hl : ∀ c ∈ l, c ∈ goodC) : Mine.T (Txt.rstrip x) = l := by
  have hA : ∀ c ∈ x.cps.toList, c < 128 := fun c hc => by
    have hc' : c ∈ Mine.T x := hc
    rw [h] at hc'
    rcases List.mem_append.mp hc' with q | q
    · exact (good_sign c (hl c q)).1
    · rw [(List.mem_replicate.mp q).2]; decide
  obtain ⟨hi, h1, e, h2, h3⟩ := rstrip_cut hA
  have len : x.length = l.length + n := by rw [← T_len, h, List.length_append, List.length_replicate]
  have gd : ∀ k, x.cps.getD k 0 = (l ++ List.replicate n 32).getD k 0 := fun k => by rw [← h]; exact (getD_list x k).symm
  have sp32 : spS ⟨#[32]⟩ = true := by decide +kernel
  have e1 : hi = l.length := by
    by_cases q : hi < l.length
    · have := h2 hi (Nat.le_refl _) (by omega)
      rw [gd, List.getD_eq_getElem?_getD, List.getElem?_append_left q, List.getElem?_eq_getElem q] at this
      rw [show (some l[hi]).getD 0 = l[hi] from rfl, (good_sign _ (hl _ (List.getElem_mem q))).2.2.2.2.1] at this
      cases this
    · rcases h3 with h3 | h3
      · omega
      · by_cases z : hi = l.length
        · exact z
        · exfalso
          rw [gd, List.getD_eq_getElem?_getD, List.getElem?_append_right (by omega), List.getElem?_replicate, if_pos (by omega)] at h3
          rw [show (some 32).getD 0 = 32 from rfl, sp32] at h3
          cases h3
  rw [e, strSub_mk]
  show ((Mine.T x).drop 0).take (hi - 0) = l
  rw [List.drop_zero, Nat.sub_zero, h, e1, List.take_left]
theorem nameT_pad {bs es : List Nat} {p v : Str} (g : Good bs es) (hp : Mine.T p = pad bs es) (hv : Mine.T v = nm bs es) : nameT (encB p) = v := by
  have hA : ∀ c ∈ Mine.T p, c < 128 := by rw [hp]; exact pad_ascii g
  have e0 := encB_list p hA
  obtain ⟨l, hl⟩ : ∃ l, l = (encB p).toList := ⟨_, rfl⟩
  have hl' : encB p = l.toArray := by rw [hl]
  rw [← hl, hp] at e0
  have len : l.length = 11 := by rw [← pad_len g, ← e0, List.length_map]
  obtain ⟨k1, k2⟩ := picked8 l len
  have b1 : Mine.T (baseT l.toArray) = bs := by
    unfold baseT
    refine rstrip_pad (n := 8 - bs.length) ?_ g.gb
    rw [T_decT, k1, List.map_take, e0]
    unfold pad
    rw [List.take_append_of_le_length (by have := g.b8; rw [List.length_append, List.length_replicate]; omega), List.take_of_length_le (by have := g.b8; rw [List.length_append, List.length_replicate]; omega)]
  have b2 : Mine.T (extT l.toArray) = es := by
    unfold extT
    refine rstrip_pad (n := 3 - es.length) ?_ g.ge
    rw [T_decT, k2, List.map_take, List.map_drop, e0]
    unfold pad
    rw [List.drop_append_of_le_length (by have := g.b8; rw [List.length_append, List.length_replicate]; omega), List.drop_eq_nil_of_le (by have := g.b8; rw [List.length_append, List.length_replicate]; omega), List.nil_append, List.take_of_length_le (by have := g.e3; rw [List.length_append, List.length_replicate]; omega)]
  refine T_inj ?_
  rw [hl', hv]
  unfold nameT nm dotE
  rw [T_join2, b1, b2]
  by_cases h : es = []
  · rw [if_neg (by rw [← T_len, b2, h]; exact Nat.lt_irrefl _), if_pos h, h]
    rfl
  · rw [if_pos (by rw [← T_len, b2]; exact List.length_pos_iff.mpr h), if_neg h]
    rfl
theorem head_pad {bs es : List Nat} {p : Str} (g : Good bs es) (hp : Mine.T p = pad bs es) : ∃ c, (encB p)[0]? = some c ∧ c ≠ 0 ∧ c ≠ 229 ∧ c ≠ 5 := by
  have hA : ∀ c ∈ Mine.T p, c < 128 := by rw [hp]; exact pad_ascii g
  have e0 := encB_list p hA
  have hb := g.b1
  match bs, hb, g with
  | d :: r, _, g =>
    have z := good_sign d (g.gb d (.head _))
    rw [hp] at e0
    cases q : (encB p).toList with
    | nil => rw [q] at e0; cases e0
    | cons c cs =>
      rw [q] at e0
      have e1 : c.toNat = d := (List.cons.inj e0).1
      refine ⟨c, by rw [← Array.getElem?_toList, q]; rfl, fun w => ?_, fun w => ?_, fun w => ?_⟩
      · rw [w] at e1; exact z.2.2.2.2.2.2.2.1 e1.symm
      · rw [w] at e1; have := z.1; rw [← e1] at this; exact absurd this (by decide)
      · rw [w] at e1; exact z.2.2.2.2.2.2.2.2 e1.symm
/-! ## plain laws: a good name is taken; the numbered names are good and unlike -/
theorem nm_len {bs es : List Nat} (g : Good bs es) : (nm bs es).length ≤ 12 := by
  have h1 := g.b8
  have h2 := g.e3
  unfold nm dotE
  split
  · rw [List.length_append]; show _ + 0 ≤ _; omega
  · rw [List.length_append, List.length_cons]; omega
theorem nm_sign {bs es : List Nat} (g : Good bs es) : ∀ c ∈ nm bs es, c ∈ goodC ∨ c = 46 := fun c hc => by
  unfold nm dotE at hc
  rcases List.mem_append.mp hc with h | h
  · exact .inl (g.gb c h)
  · split at h
    · cases h
    · rcases List.mem_cons.mp h with rfl | h
      · exact .inr rfl
      · exact .inl (g.ge c h)
theorem conf_good {bs es : List Nat} {v : Str} (g : Good bs es) (hv : Mine.T v = nm bs es) : Conf v := by
  have hs : ∀ c ∈ Mine.T v, c ∈ goodC ∨ c = 46 := by rw [hv]; exact nm_sign g
  have hA : ∀ c ∈ v.cps.toList, c < 128 := fun c hc => by
    rcases hs c hc with h | rfl
    · exact (good_sign c h).1
    · decide
  have all128 : ∀ {y : Str}, (∀ c ∈ Mine.T y, c ∈ goodC) → y.cps.all (· < 128) = true := fun {y} h => Array.all_eq_true_iff_forall_mem.mpr fun c hc => decide_eq_true (good_sign c (h c (Array.mem_toList_iff.mpr hc))).1
  refine ⟨?_, fun j hj => ?_, ?_, fun a b h => ?_⟩
  · rw [← T_len, hv]
    exact Nat.le_trans (nm_len g) (by decide)
  · rw [← T_at] at hj
    rcases hs 47 (List.mem_of_getElem? hj) with h | h
    · exact (good_sign 47 h).2.2.1 rfl
    · cases h
  · rw [upper_ascii hA]
    refine T_inj ?_
    show (v.cps.map up1).toList = _
    rw [Array.toList_map]
    refine Eq.trans (List.map_congr_left (g := id) fun c hc => ?_) (List.map_id _)
    rcases hs c hc with h | rfl
    · exact (good_sign c h).2.2.2.2.2.1
    · rfl
  · obtain ⟨ha, hb⟩ := split_nm g hv h
    have h1 := tail1 hb
    have ga : ∀ c ∈ Mine.T a, c ∈ goodC := by rw [ha]; exact g.gb
    have gb : ∀ c ∈ Mine.T (Txt.slice b (some 1) none), c ∈ goodC := by rw [h1]; exact g.ge
    refine ⟨by rw [← T_len, ha]; exact g.b8, by rw [← T_len, h1]; exact g.e3, all128 ga, all128 gb, fun c hc => (good_sign c (ga c hc)).2.2.2.2.2.2.1, fun c hc => (good_sign c (gb c hc)).2.2.2.2.2.2.1⟩
theorem dg_good : ∀ j, j ≤ 40 → ∀ c ∈ dg j, c ∈ goodC ∧ c ≠ 126 := by
  have h : ∀ j : Fin 41, ∀ c ∈ dg j.val, c ∈ goodC ∧ c ≠ 126 := by decide +kernel
  exact fun j hj => h ⟨j, by omega⟩
theorem dg_inj : ∀ i j, i ≤ 40 → j ≤ 40 → dg i = dg j → i = j := by
  have h : ∀ i j : Fin 41, dg i.val = dg j.val → i = j := by decide +kernel
  exact fun i j hi hj e => congrArg Fin.val (h ⟨i, by omega⟩ ⟨j, by omega⟩ e)
theorem mkB_good {bs es : List Nat} (g : Good bs es) : ∀ j, j ≤ 40 → Good (mkB bs j) es
  | 0, _ => g
  | j + 1, hj => by
    have ih := mkB_good g j (by omega)
    refine ⟨?_, mkB_len g.b8 _ hj, g.e3, fun c hc => ?_, g.ge⟩
    · show 1 ≤ (_ ++ 126 :: dg (j + 1)).length
      rw [List.length_append, List.length_cons]; omega
    · rcases List.mem_append.mp (show c ∈ _ ++ 126 :: dg (j + 1) from hc) with h | h
      · exact ih.gb c (List.mem_of_mem_take h)
      · rcases List.mem_cons.mp h with rfl | h
        · decide
        · exact (dg_good _ hj c h).1
theorem last_piece (X : List Nat) {d : List Nat} (h : ∀ c ∈ d, c ≠ 126) : ((X ++ 126 :: d).reverse.takeWhile fun c => c != 126) = d.reverse := by
  rw [List.reverse_append, List.reverse_cons, List.append_assoc]
  have : ∀ (l r : List Nat), (∀ c ∈ l, c ≠ 126) → ((l ++ 126 :: r).takeWhile fun c => c != 126) = l := fun l r hl => by
    induction l with
    | nil => rfl
    | cons a l ih =>
      show List.takeWhile _ (a :: (l ++ 126 :: r)) = _
      rw [List.takeWhile_cons, if_pos (by simpa using hl a (.head _)), ih fun c hc => hl c (.tail _ hc)]
  exact this d.reverse X.reverse fun c hc => h c (List.mem_reverse.mp hc)
theorem mkN_inj {bs es : List Nat} {i j : Nat} (hi : 1 ≤ i) (hj : 1 ≤ j) (hi' : i ≤ 40) (hj' : j ≤ 40) (h : mkN bs es i = mkN bs es j) : i = j := by
  have h1 : mkB bs i = mkB bs j := List.append_cancel_right h
  obtain ⟨a, rfl⟩ : ∃ a, i = a + 1 := ⟨i - 1, by omega⟩
  obtain ⟨b, rfl⟩ : ∃ b, j = b + 1 := ⟨j - 1, by omega⟩
  have h2 : _ ++ 126 :: dg (a + 1) = _ ++ 126 :: dg (b + 1) := h1
  have h3 := congrArg (fun l => l.reverse.takeWhile fun c => c != 126) h2
  rw [last_piece _ fun c hc => (dg_good _ hi' c hc).2, last_piece _ fun c hc => (dg_good _ hj' c hc).2] at h3
  exact dg_inj _ _ hi' hj' (List.reverse_inj.mp h3)
theorem pigeon : ∀ (l L : List (List Nat)), l.Nodup → (∀ x ∈ l, x ∈ L) → l.length ≤ L.length
  | [], _, _, _ => Nat.zero_le _
  | a :: r, L, hn, hs => by
    obtain ⟨h1, h2⟩ := List.nodup_cons.mp hn
    have ih := pigeon r (L.erase a) h2 fun x hx => (List.mem_erase_of_ne (fun (q : x = a) => h1 (by rw [← q]; exact hx))).mpr (hs x (.tail _ hx))
    have := List.length_erase_of_mem (hs a (.head _))
    have hp : 0 < L.length := List.length_pos_of_mem (hs a (.head _))
    rw [List.length_cons]
    omega
theorem tried_le {names : List Str} {bs es : List Nat} {j : Nat} (hj : j ≤ 40) (h : Tried names bs es j) : j ≤ names.length + 1 := by
  have hp := pigeon ((List.range' 1 (j - 1)).map (mkN bs es)) (names.map Mine.T) ?_ ?_
  · rw [List.length_map, List.length_map, List.length_range'] at hp
    omega
  · rw [List.nodup_iff_pairwise_ne, List.pairwise_map]
    refine (List.nodup_iff_pairwise_ne.mp (List.nodup_range' ..)).imp_of_mem fun {a b} ha hb hab q => hab ?_
    rw [List.mem_range'_1] at ha hb
    exact mkN_inj ha.1 hb.1 (by omega) (by omega) q
  · intro x hx
    obtain ⟨i, hi, rfl⟩ := List.mem_map.mp hx
    rw [List.mem_range'_1] at hi
    obtain ⟨y, hy, e⟩ := h i (by omega)
    exact List.mem_map.mpr ⟨y, hy, e⟩
theorem whl_good {names : List Str} {bs es : List Nat} (g : Good bs es) (hn : names.length ≤ 29) : Whl names bs es :=
  ⟨g.b8, g.e3, fun j hj h => by have := tried_le hj h; omega⟩
theorem good_parts {z : Str} (hz : Asc z) (h : mB (Mine.T z) ≠ []) : Good (mB (Mine.T z)) (mE (Mine.T z)) := by
  refine ⟨List.length_pos_iff.mpr h, ?_, ?_, fin_good fun c hc => hz.out c (List.mem_of_mem_take hc), fin_good fun c hc => hz.out c (List.mem_of_mem_drop (List.mem_of_mem_take hc))⟩
  · refine Nat.le_trans (fin_len _) ?_
    rw [List.length_take]
    omega
  · refine Nat.le_trans (fin_len _) ?_
    rw [List.length_take]
    omega
/-! ## plain laws: a numbered name, as the law's _law_numbered asks -/
theorem mkB_starts {bs : List Nat} (h5 : bs.length ≤ 5) : ∀ j, j ≤ 40 → bs.length ≤ (mkB bs j).length ∧ (mkB bs j).take bs.length = bs
  | 0, _ => ⟨Nat.le_refl _, List.take_length⟩
  | j + 1, hj => by
    obtain ⟨h1, h2⟩ := mkB_starts h5 j (by omega)
    have h3 := dg_len (j + 1) hj
    have e : (mkB bs (j + 1)) = (mkB bs j).take (7 - (dgS (j + 1)).length) ++ 126 :: dg (j + 1) := rfl
    have hl : bs.length ≤ ((mkB bs j).take (7 - (dgS (j + 1)).length)).length := by rw [List.length_take]; omega
    rw [e]
    refine ⟨by rw [List.length_append]; omega, ?_⟩
    rw [List.take_append_of_le_length hl, List.take_take, Nat.min_eq_left (by omega), h2]
theorem tw_stop (p : Nat → Bool) : ∀ (l r : List Nat), (∃ c ∈ l, p c = false) → (l ++ r).takeWhile p = l.takeWhile p
  | [], _, ⟨c, h, _⟩ => by cases h
  | a :: l, r, ⟨c, h, hc⟩ => by
    show List.takeWhile p (a :: (l ++ r)) = _
    rw [List.takeWhile_cons, List.takeWhile_cons]
    by_cases q : p a = true
    · rw [if_pos q, if_pos q, tw_stop p l r ?_]
      rcases List.mem_cons.mp h with rfl | h
      · rw [hc] at q; cases q
      · exact ⟨c, h, hc⟩
    · rw [if_neg q, if_neg q]
theorem tw_all (l : List Nat) (h : ∀ c ∈ l, c ≠ 126) : l.takeWhile (fun c => c != 126) = l := by
  induction l with
  | nil => rfl
  | cons a l ih => rw [List.takeWhile_cons, if_pos (by simpa using h a (.head _)), ih fun c hc => h c (.tail _ hc)]
theorem join_last : ∀ (a : Str) (r : List Str), (∀ y ∈ a :: r, ∀ c ∈ Mine.T y, c ≠ 126) → ((Mine.T (Str.join ⟨#[126]⟩ (a :: r))).reverse.takeWhile fun c => c != 126) = (Mine.T ((a :: r).getLast (List.cons_ne_nil _ _))).reverse
  | a, [], h => tw_all _ fun c hc => h a (.head _) c (List.mem_reverse.mp hc)
  | a, b :: r, h => by
    have ih := join_last b r fun y hy => h y (.tail _ hy)
    have e : Mine.T (Str.join ⟨#[126]⟩ (a :: b :: r)) = Mine.T a ++ 126 :: Mine.T (Str.join ⟨#[126]⟩ (b :: r)) := by
      show Mine.T (a ++ (⟨#[126]⟩ : Str) ++ Str.join ⟨#[126]⟩ (b :: r)) = _
      rw [T_add, T_add, List.append_assoc]
      rfl
    rw [e, List.getLast_cons (List.cons_ne_nil b r), ← ih]
    generalize Mine.T (Str.join ⟨#[126]⟩ (b :: r)) = Y
    by_cases q : ∃ c ∈ Y, c = 126
    · obtain ⟨c, hc, rfl⟩ := q
      rw [show Mine.T a ++ 126 :: Y = (Mine.T a ++ [126]) ++ Y by rw [List.append_assoc]; rfl, List.reverse_append]
      exact tw_stop _ _ _ ⟨126, List.mem_reverse.mpr hc, rfl⟩
    · have hY : ∀ c ∈ Y, c ≠ 126 := fun c hc r => q ⟨c, hc, r⟩
      rw [last_piece _ hY, tw_all _ fun c hc => hY c (List.mem_reverse.mp hc)]
theorem split_last {fr : Str} {X : List Nat} {j : Nat} (hj : j ≤ 40) (h : Mine.T fr = X ++ 126 :: dg j) : 2 ≤ (Txt.split fr (Str.ofString "~")).length ∧ (Txt.split fr (Str.ofString "~"))[(Txt.split fr (Str.ofString "~")).length - 1]? = some (dgS j) := by
  have e0 : Str.ofString "~" = ⟨#[126]⟩ := by decide
  rw [e0]
  have hf := StrLaws.split_free fr 126
  have hjn := StrLaws.join_split fr ⟨#[126]⟩
  obtain ⟨L, hL⟩ : ∃ L, L = Txt.split fr ⟨#[126]⟩ := ⟨_, rfl⟩
  rw [← hL] at hf hjn ⊢
  match L, hf, hjn with
  | [], _, hjn =>
    have : Mine.T fr = [] := by rw [← hjn]; rfl
    rw [h] at this
    cases X <;> cases this
  | [a], hf, hjn =>
    have e : a = fr := hjn
    exfalso
    refine hf a (.head _) ?_
    show 126 ∈ Mine.T a
    rw [e, h]
    exact List.mem_append_right _ (.head _)
  | a :: b :: r, hf, hjn =>
    refine ⟨Nat.le_add_left 2 _, ?_⟩
    have z := join_last a (b :: r) fun y hy c hc q => hf y hy (q ▸ hc)
    rw [hjn, h, last_piece _ fun c hc => (dg_good j hj c hc).2] at z
    have z2 : (a :: b :: r).getLast (List.cons_ne_nil _ _) = dgS j := T_inj (List.reverse_inj.mp z).symm
    rw [← List.getLast?_eq_getElem?, List.getLast?_eq_getLast (List.cons_ne_nil _ _), z2]
theorem dg_num : ∀ j, 1 ≤ j → j ≤ 40 → 1 ≤ (dgS j).length ∧ (Txt.item (dgS j) 0 == Str.ofString "0") = false ∧ ((signs (dgS j)).filter (fun a => !!(Builtin.Str.occurrences (Str.ofString "0123456789") a 0 (Str.ofString "0123456789").length 1).isEmpty) = []) := by
  have h : ∀ j : Fin 40, 1 ≤ (dgS (j.val + 1)).length ∧ (Txt.item (dgS (j.val + 1)) 0 == Str.ofString "0") = false ∧ ((signs (dgS (j.val + 1))).filter (fun a => !!(Builtin.Str.occurrences (Str.ofString "0123456789") a 0 (Str.ofString "0123456789").length 1).isEmpty) = []) := by decide +kernel
  intro j h1 h2
  obtain ⟨i, rfl⟩ : ∃ i, j = i + 1 := ⟨j - 1, by omega⟩
  exact h ⟨i, by omega⟩
structure NumOk (x b y : Str) : Prop where
  ex : ∃ fr dg : Str, ∃ l : List Str, x.length ≤ 64 ∧ y.length ≤ x.length ∧ Txt.endswith x y = true ∧ Txt.slice x none (some ((x.length : Int) - (y.length : Int))) = fr ∧ fr.length ≤ 8 ∧ Txt.split fr (Str.ofString "~") = l ∧ 2 ≤ l.length ∧ l.length ≤ 64 ∧ Txt.slice fr none (some (b.length : Int)) = b ∧ b.length ≤ 64 ∧
    l[l.length - 1]? = some dg ∧ 1 ≤ dg.length ∧ dg.length ≤ 8 ∧ (Txt.item dg 0 == Str.ofString "0") = false ∧ Hd ((signs dg).filter (fun a => !!(Builtin.Str.occurrences (Str.ofString "0123456789") a 0 (Str.ofString "0123456789").length 1).isEmpty) = [])
theorem num_ok {bs es : List Nat} {j : Nat} {x b y : Str} (g : Good bs es) (h5 : bs.length ≤ 5) (hj : 1 ≤ j) (hj' : j ≤ 40) (hx : Mine.T x = mkN bs es j) (hb : Mine.T b = bs) (hy : Mine.T y = dotE es) : NumOk x b y := by
  have gj := mkB_good g j hj'
  have hxe : Mine.T x = mkB bs j ++ dotE es := hx
  have ly : y.length = (dotE es).length := by rw [← T_len, hy]
  have lx : x.length = (mkB bs j).length + (dotE es).length := by rw [← T_len, hxe, List.length_append]
  have l12 : x.length ≤ 12 := by rw [← T_len, hxe]; exact nm_len gj
  obtain ⟨k, hk⟩ : ∃ k, k = (mkB bs j).length := ⟨_, rfl⟩
  have hfr : Mine.T (Txt.slice x none (some ((x.length : Int) - (y.length : Int)))) = mkB bs j := by
    rw [show (x.length : Int) - (y.length : Int) = ((mkB bs j).length : Nat) by omega, T_slN, hxe, List.take_left]
  obtain ⟨fr, efr⟩ : ∃ fr, fr = Txt.slice x none (some ((x.length : Int) - (y.length : Int))) := ⟨_, rfl⟩
  rw [← efr] at hfr
  have lfr : fr.length ≤ 8 := by rw [← T_len, hfr]; exact gj.b8
  obtain ⟨d1, d2, d3⟩ := dg_num j hj hj'
  have d4 := dg_len j hj'
  obtain ⟨i, rfl⟩ : ∃ i, j = i + 1 := ⟨j - 1, by omega⟩
  obtain ⟨s1, s2⟩ := split_last (fr := fr) (X := (mkB bs i).take (7 - (dgS (i + 1)).length)) hj' hfr
  refine ⟨fr, dgS (i + 1), _, Nat.le_trans l12 (by decide), by omega, ?_, efr.symm, lfr, rfl, s1, Nat.le_trans (split_le fr _) (by omega), ?_, ?_, s2, d1, Nat.le_trans d4 (by decide), d2, ⟨d3⟩⟩
  · unfold Txt.endswith
    rw [Bool.and_eq_true]
    refine ⟨decide_eq_true (by omega), ?_⟩
    rw [StrLaws.subAt_eq]
    show (((Mine.T x).drop _).take _ == Mine.T y) = true
    rw [show x.length - y.length = (mkB bs (i + 1)).length by omega, hxe, List.drop_left, ly, List.take_length, hy]
    exact beq_self_eq_true _
  · refine T_inj ?_
    rw [T_slN, hfr, ← T_len, hb]
    exact (mkB_starts h5 (i + 1) hj').2
  · rw [← T_len, hb]; omega
/-! ## the law's own frame -/
noncomputable abbrev cl5 (L : Addr) : List (Str × Addr) := [(Str.ofString "gap", L + 5), (Str.ofString "ahead", L + 4), (Str.ofString "tail", L + 3), (Str.ofString "base", L + 2), (Str.ofString "first", L + 1)]
theorem cl5_eq (L : Addr) : cellsFrom (L + 1) f27S.names [] = cl5 L := rfl
noncomputable abbrev LA (dp un : Nat) (L fa cd : Addr) : Around := ktrTop dp un (some []) (Str.ofString "law") f27S L fa (.ref cd) (cl5 L) []
noncomputable abbrev LE (L fa cd : Addr) : Env := envX (Str.ofString "law") f27S L fa (.ref cd) (cl5 L)
noncomputable abbrev a0 : Stmt := lit (nthSt f27B 0) _ (by conv => lhs; whnf)
noncomputable abbrev a1 : Stmt := lit (nthSt f27B 1) _ (by conv => lhs; whnf)
noncomputable abbrev a2 : Stmt := lit (nthSt f27B 2) _ (by conv => lhs; whnf)
noncomputable abbrev a3 : Stmt := lit (nthSt f27B 3) _ (by conv => lhs; whnf)
noncomputable abbrev a4 : Stmt := lit (nthSt f27B 4) _ (by conv => lhs; whnf)
noncomputable abbrev a5 : Stmt := lit (nthSt f27B 5) _ (by conv => lhs; whnf)
noncomputable abbrev a6 : Stmt := lit (nthSt f27B 6) _ (by conv => lhs; whnf)
noncomputable abbrev a7 : Stmt := lit (nthSt f27B 7) _ (by conv => lhs; whnf)
noncomputable abbrev a8 : Stmt := lit (nthSt f27B 8) _ (by conv => lhs; whnf)
noncomputable abbrev a9 : Stmt := lit (nthSt f27B 9) _ (by conv => lhs; whnf)
noncomputable abbrev a10 : Stmt := lit (nthSt f27B 10) _ (by conv => lhs; whnf)
noncomputable abbrev a11 : Stmt := lit (nthSt f27B 11) _ (by conv => lhs; whnf)
noncomputable abbrev a12 : Stmt := lit (nthSt f27B 12) _ (by conv => lhs; whnf)
noncomputable abbrev a13 : Stmt := lit (nthSt f27B 13) _ (by conv => lhs; whnf)
noncomputable abbrev a14 : Stmt := lit (nthSt f27B 14) _ (by conv => lhs; whnf)
noncomputable abbrev a15 : Stmt := lit (nthSt f27B 15) _ (by conv => lhs; whnf)
noncomputable abbrev a16 : Stmt := lit (nthSt f27B 16) _ (by conv => lhs; whnf)
noncomputable abbrev a17 : Stmt := lit (nthSt f27B 17) _ (by conv => lhs; whnf)
noncomputable abbrev a18 : Stmt := lit (nthSt f27B 18) _ (by conv => lhs; whnf)
theorem f27_is : f27B = [a0, a1, a2, a3, a4, a5, a6, a7, a8, a9, a10, a11, a12, a13, a14, a15, a16, a17, a18] := rfl
def Keep (ns : List Str) (m m' : Str → Option Value) : Prop := ∀ z, z ∉ ns → m' z = m z
theorem Keep.of_eq {ns : List Str} {m m' : Str → Option Value} (e : m' = m) : Keep ns m m' := fun z _ => by rw [e]
theorem Keep.step {ns : List Str} {m m' : Str → Option Value} {x : Str} {v : Option Value} (k : Keep ns m m') (h : x ∈ ns) : Keep ns m (fun y => if y = x then v else m' y) := fun z hz => by
  have : z ≠ x := fun e => hz (e ▸ h)
  show (if z = x then v else m' z) = m z
  rw [if_neg this]; exact k z hz
theorem Keep.at {ns : List Str} {m m' : Str → Option Value} (k : Keep ns m m') {x : Str} {v : Option Value} (e : m x = v) (h : x ∉ ns := by decide) : m' x = v := (k x h).trans e
theorem Keep.trans {ns : List Str} {m m' m'' : Str → Option Value} (k : Keep ns m m') (k' : Keep ns m' m'') : Keep ns m m'' := fun z hz => (k' z hz).trans (k z hz)
theorem Keep.mono {ns ns' : List Str} {m m' : Str → Option Value} (k : Keep ns m m') (h : ∀ x ∈ ns, x ∈ ns') : Keep ns' m m' := fun z hz => k z fun c => hz (h z c)
/-- two addresses of the ledger that hold unlike objects are unlike -/
theorem News.ne {h : Heap} {a b : Addr} {o o' : Obj} (N : News h₀ L h news) (h1 : (a, o) ∈ news) (h2 : (b, o') ∈ news) (hn : o ≠ o') : a ≠ b := fun e => by
  have e1 := N.get h1
  have e2 := N.get h2
  rw [e] at e1
  exact hn (Option.some.inj (e1.symm.trans e2))
theorem storeC {M : Model} {A : Around} {x : Str} {v : Value} {Q : Unit → Shared → Prop} {c : Addr} {o : Obj} {v₀ : Option Value} {rest : List (Addr × Obj)} (F : Fr h₀ L s.heap m) (N : News h₀ L s.heap news) (hc : cl.lookup x = some c) (hm : (c, o) ∈ news) (hd : o.data = .cell v₀) (hr : ∀ p ∈ rest, p ∈ news ∧ p.1 ≠ c)
    (h : ∀ h' o', Fr h₀ L h' m → News h₀ L h' ((c, o') :: rest) → o'.data = .cell (some v) → Q () { s with heap := h' })
    (hk : cs.kind = .function := by rfl) (hx : (envX cn cs L a ccd cl).kindOf x = some .cell := by rfl) : wpAny M A (storeName (envX cn cs L a ccd cl) x v) Q E s :=
  storeX_C (news := (c, o) :: rest) F (fun p hp => by
    rcases List.mem_cons.mp hp with rfl | hp
    · exact N _ hm
    · exact N _ (hr p hp).1) hc (UpdF.head fun p hp => (hr p hp).2) hd h hk hx
section
variable {prog : Program} {A : Around}
/-- a list of the ledger grows; the rest stands -/
theorem app_L {D : Addr} {items : List Value} {n : Nat} {x : Value} {Q : Value → Shared → Prop} (F : Fr h₀ L s.heap m) (N : News h₀ L s.heap news) (hm : (D, W.listOf items.toArray n) ∈ news) (hz : items.length ≤ 64)
    (h : ∀ h', Fr h₀ L h' m → (∀ p ∈ news, p.1 ≠ D → News h₀ L h' [p]) → News h₀ L h' [(D, W.listOf (items ++ [x]).toArray (n + 1))] → Q .none { s with heap := h' }) : wpAny (model prog w) A (call (.builtin "list.append") [.ref D, x]) Q E s := by
  refine append_at (its := items.toArray) (N _ hm).1 (fun h' hs ho => h h' (F.change hs (N _ hm).2.1 (N _ hm).2.2) (fun p hp hne q hq => ?_) (fun q hq => ?_)) (by rw [PySem.sizeLine_eq, List.size_toArray]; omega)
  · rw [List.mem_singleton.mp hq]
    exact ⟨(hs.2 _ hne).trans (N p hp).1, (N p hp).2⟩
  · rw [List.mem_singleton.mp hq]
    refine ⟨?_, (N _ hm).2⟩
    rw [← List.push_toArray]
    exact ho
end
theorem News.of_one {h : Heap} (hp : ∀ p ∈ news, News h₀ L h [p]) : News h₀ L h news := fun p q => hp p q p (List.mem_singleton.mpr rfl)
theorem cls_ne {o o' : Obj} {a b : String} (h : o.cls = .type a) (h' : o'.cls = .type b) (hn : a ≠ b) : o ≠ o' := fun e => hn (Value.type.inj (h.symm.trans ((congrArg Obj.cls e).trans h')))
theorem layj_83 : True := by
  k_with "my:keeps" => (first | ((repeat (refine Keep.step ?_ (by decide))); assumption) | fail)
  k_with "my:fr" => (first | (first | k_asm | exact turn_fr (by assumption) (by k_asm)) | fail)
  k_with "my:ne" => (first | (walk_at "my:n"; done) | exact turn_news (by assumption) (by walk_at "my:n"))
  k_with "my:end" => (first | ((case f => walk_at "my:fr"); (case n => walk_at "my:ne"); (case k => walk_at "my:keeps")) | fail)
  k_with "my:endb" => (first | ((case f2 => walk_at "my:fr"); (case n2 => walk_at "my:ne"); (case k2 => walk_at "my:keeps")) | fail)
  trivial
theorem g0_first {QF : Flow → Shared → Prop} {fa cd : Addr} {sa : Addr} {vs : List Value} {ns : List Int} {co : Obj} {v₀ : Option Value} (hs : h₀.IsList sa vs.toArray) (hi : IntsAre vs ns) (hz : ns.length ≤ 63) (hco : co.data = .cell v₀) (hoff : ∀ p ∈ news, p.1 ≠ L + 1) (l_script : m (Str.ofString "script") = some (.ref sa)) (B : Below A₀ h₀ [] h₀) (F : Fr h₀ L s.heap m) (X : (KK w.params).In h₀) (N : News h₀ L s.heap ((L + 1, co) :: news)) (T : Top VW LO mean mg mb h₀) (hd : dp + 100 < recursionLimit) (hu : un + 1000 < cLine)
    (ret : ∀ m' h' tk' co2 fv tf, co2.data = .cell (some (.int fv tf)) → Keep [] m m' → Fr h₀ L h' m' → News h₀ L h' ((L + 1, co2) :: news) → QF .next { s with heap := h', toks := tk' }) :
    wpAny (model PR w) (ktrTop dp un (some []) (Str.ofString "law") f27S L fa (.ref cd) (cl5 L) []) (exec a0 (envX (Str.ofString "law") f27S L fa (.ref cd) (cl5 L))) QF E s := by
  have d0 : KtsDicts (([] : List Env).filterMap (·.frame)) h₀ := ktsDicts_nil
  have e0 : fo [(Str.ofString "script", .ref sa)] m = m := fo_cons (by assumption) fo_nil
  have k0 : Keep [] m (fo [(Str.ofString "script", .ref sa)] m) := Keep.of_eq e0
  replace F := e0.symm ▸ F
  clear e0
  have hlen : vs.length = ns.length := hi.length
  have hs2 := F.lst hs
  dsimp only [a0, lit]
  k_steps
  all_goals (try k_data)
  all_goals (rename Fr h₀ L _ _ => F1; rename News h₀ L _ _ => N1; exact storeX_C F1 N1 rfl (UpdF.head hoff) hco (fun h' o' F2 N2 d2 => ret _ h' _ o' _ _ d2 k0 F2 N2) rfl rfl)
theorem g0_numbers {QF : Flow → Shared → Prop} {fa cd : Addr} {sa : Addr} {vs : List Value} {ns : List Int} (hs : h₀.IsList sa vs.toArray) (hi : IntsAre vs ns) (hz : ns.length ≤ 63) (l_script : m (Str.ofString "script") = some (.ref sa)) (B : Below A₀ h₀ [] h₀) (F : Fr h₀ L s.heap m) (X : (KK w.params).In h₀) (N : News h₀ L s.heap news) (T : Top VW LO mean mg mb h₀) (hd : dp + 100 < recursionLimit) (hu : un + 1000 < cLine)
    (ret : ∀ m' h' tk' c ws ks k, IntsAre ws ks → ks.length ≤ 5 → 1 ≤ ks.length → (∀ p ∈ news, p.1 < c) → Keep [Str.ofString "numbers"] m m' → m' (Str.ofString "numbers") = some (.ref c) → Fr h₀ L h' m' → News h₀ L h' ((c, W.listOf ws.toArray k) :: news) → QF .next { s with heap := h', toks := tk' }) :
    wpAny (model PR w) (ktrTop dp un (some []) (Str.ofString "law") f27S L fa (.ref cd) (cl5 L) []) (exec a1 (envX (Str.ofString "law") f27S L fa (.ref cd) (cl5 L))) QF E s := by
  have d0 : KtsDicts (([] : List Env).filterMap (·.frame)) h₀ := ktsDicts_nil
  have e0 : fo [(Str.ofString "script", .ref sa)] m = m := fo_cons (by assumption) fo_nil
  have k0 : Keep [Str.ofString "numbers"] m (fo [(Str.ofString "script", .ref sa)] m) := Keep.of_eq e0
  replace F := e0.symm ▸ F
  clear e0
  have hlen : vs.length = ns.length := hi.length
  have hs2 := F.lst hs
  dsimp only [a1, lit]
  k_steps
  all_goals (try k_data)
  · refine' ret _ _ _ _ _ _ _ ?g0 ?g1 ?g2 ?g3 ?k ?q0 ?f ?n
    walk_at "my:end"
    (case q0 => exact rfl)
    (case g0 => assumption)
    (case g1 => first | exact Nat.le_trans (List.length_take_le _ _) (Nat.sub_le_sub_right (Nat.min_le_left 6 _) 1) | omega)
    (case g2 => omega)
    (case g3 => walk_at "my:lt")
  · refine' ret _ _ _ _ [_, _] [_, _] _ (.cons _ _ (.cons _ _ .nil)) (by exact Nat.le_of_ble_eq_true rfl) (by exact Nat.le_of_ble_eq_true rfl) ?g3 ?k ?q0 ?f ?n
    walk_at "my:end"
    (case q0 => exact rfl)
    (case g3 => rename _ ∧ AllLt _ _ => hl; exact fun p hp => ktn_ltOf hl.2 p hp)
theorem g0_deep {QF : Flow → Shared → Prop} {fa cd : Addr} {co : Obj} {fv : Int} {tf : Tok} (hco : co.data = .cell (some (.int fv tf))) (hm : (L + 1, co) ∈ news) (B : Below A₀ h₀ [] h₀) (F : Fr h₀ L s.heap m) (X : (KK w.params).In h₀) (N : News h₀ L s.heap news) (T : Top VW LO mean mg mb h₀) (hd : dp + 100 < recursionLimit) (hu : un + 1000 < cLine)
    (ret : ∀ m' h' tk' b, Keep [Str.ofString "deep"] m m' → m' (Str.ofString "deep") = some (.bool b) → Fr h₀ L h' m' → News h₀ L h' news → QF .next { s with heap := h', toks := tk' }) :
    wpAny (model PR w) (ktrTop dp un (some []) (Str.ofString "law") f27S L fa (.ref cd) (cl5 L) []) (exec a2 (envX (Str.ofString "law") f27S L fa (.ref cd) (cl5 L))) QF E s := by
  have d0 : KtsDicts (([] : List Env).filterMap (·.frame)) h₀ := ktsDicts_nil
  have k0 : Keep [Str.ofString "deep"] m m := Keep.of_eq rfl
  dsimp only [a2, lit]
  k_steps
  all_goals (try k_data)
  all_goals (refine' ret _ _ _ _ ?k ?q0 ?f ?n; walk_at "my:end"; (case q0 => exact rfl))
theorem g0_wanted {QF : Flow → Shared → Prop} {fa cd : Addr} (B : Below A₀ h₀ [] h₀) (F : Fr h₀ L s.heap m) (X : (KK w.params).In h₀) (N : News h₀ L s.heap news) (T : Top VW LO mean mg mb h₀) (hd : dp + 100 < recursionLimit) (hu : un + 1000 < cLine)
    (ret : ∀ m' h' tk' c, (∀ p ∈ news, p.1 < c) → Keep [Str.ofString "wanted"] m m' → m' (Str.ofString "wanted") = some (.ref c) → Fr h₀ L h' m' → News h₀ L h' ((c, W.listOf #[] 0) :: news) → QF .next { s with heap := h', toks := tk' }) :
    wpAny (model PR w) (ktrTop dp un (some []) (Str.ofString "law") f27S L fa (.ref cd) (cl5 L) []) (exec a3 (envX (Str.ofString "law") f27S L fa (.ref cd) (cl5 L))) QF E s := by
  have d0 : KtsDicts (([] : List Env).filterMap (·.frame)) h₀ := ktsDicts_nil
  have k0 : Keep [Str.ofString "wanted"] m m := Keep.of_eq rfl
  dsimp only [a3, lit]
  k_steps
  all_goals (try k_data)
  all_goals (refine' ret _ _ _ _ ?g0 ?k ?q0 ?f ?n; walk_at "my:end"; (case q0 => exact rfl); (case g0 => walk_at "my:lt"))
/-! ## for over a list of the ledger, from a stack that holds no call that keeps a bytearray -/
section
open LCg
variable {prog : Program} {A : Around} {env : Env}
theorem codeC_forLoopT {R : Flow → Shared → Prop} {target it body env} (I : Nat → Shared → Prop)
    (turn : ∀ n s, I n s → wpAny (model prog w) A (pyNext it) (fun r s₁ => match r with
      | none => R .next s₁
      | some v => wpAny (model prog w) A (letOwnedTupleGo target it v) (fun _ s₁ => wpAny (model prog w) A (assign target env v) (fun _ s₂ => wpC (model prog w) A (execs body env) (fun f s₃ => match f with
          | .next | .cont => ∃ m, m < n ∧ I m s₃
          | .brk => R .next s₃
          | .ret v => R (.ret v) s₃) s₂) (fun _ _ => False) s₁) (fun _ _ => False) s₁) (fun _ _ => False) s)
    (n : Nat) (h : I n s) : codeC (model prog w) A (.forLoop target it body [] env) R s := by
  refine codeC_loop rfl rfl I (fun n s hI => ?_) n h
  show wpC _ _ ((forTurn target it body [] env).onRaise (fun x => do noteFrame x env; theTreesLotGoes x)) _ s
  refine wpC_onRaise ?_
  simp only [forTurn]
  refine wpC_bind (wpC_standAt (wpC_bind (wpC_onRaise (wpC_of (wpAny_mono (turn n s hI) (fun r s₁ h₁ => ?_) fun _ _ h' => h')))))
  cases r with
  | none => exact wpC_pure (.inr ⟨rfl, codeC_of (codeAny_block (wpAny_execs_nil h₁))⟩)
  | some v =>
    refine wpC_bind (wpC_of (wpAny_mono h₁ (fun _ s₁ h₁ => ?_) fun _ _ h' => h'))
    refine wpC_bind (wpC_of (wpAny_mono h₁ (fun _ s₂ h₂ => wpC_bind (wpC_mono h₂ (fun f s₃ h₃ => ?_))) fun _ _ h' => h'))
    cases f with
    | next => exact wpC_pure (.inl ⟨rfl, h₃⟩)
    | cont => exact wpC_pure (.inl ⟨rfl, h₃⟩)
    | brk => exact wpC_pure h₃
    | ret v => exact wpC_pure h₃
theorem For_LC {target iter : Expr} {body : List Stmt} {pos : Pos} {Q : Flow → Shared → Prop} {r : Addr} {vs : List Value} {k : Nat} (J : Nat → (Str → Option Value) → List (Addr × Obj) → Prop)
    (hit : ∀ Q : Value → Shared → Prop, Q (.ref r) s → wpAny (model prog w) A (eval iter env) Q (fun _ _ => False) s)
    (hh : A.handled = none) (F : Fr h₀ env.locals s.heap m) (N : News h₀ env.locals s.heap news) (hr : (r, W.listOf vs.toArray k) ∈ news) (h0 : J 0 m news)
    (ht : (∀ I v, letOwnedTupleGo target (.ref I) v = pure ()) ∨ ∃ elts x1 pos, target = .Tuple elts x1 pos)
    (step : ∀ i v I oI m₁ news₁ h tk, vs[i]? = some v → (∃ b, v = .ref b) ∧ J i m₁ news₁ → (∀ p ∈ news₁, p.1 ≠ I) → (r, W.listOf vs.toArray k) ∈ news₁ → Fr h₀ env.locals h m₁ → News h₀ env.locals h ((I, oI) :: news₁) →
        wpAny (model prog w) A (assign target env v) (fun _ s₂ => wpC (model prog w) A (execs body env) (fun f s₃ =>
          (f = .next ∧ ForEnd h₀ env.locals s I oI (fun nw => (r, W.listOf vs.toArray k) ∈ nw) (J (i + 1)) s₃) ∨ ∃ v, f = .ret v ∧ Q (.ret v) s₃) s₂) (fun _ _ => False) { s with heap := h, toks := tk })
    (fin : ∀ h' tk m' news', Fr h₀ env.locals h' m' → News h₀ env.locals h' news' → J vs.length m' news' → Q .next { s with heap := h', toks := tk })
    (hvs : ∀ v ∈ vs, ∃ b, v = .ref b)
    (hs : ∀ x, foldedSetIterable iter env x = pure x := by intro _; rfl) :
    wpC (model prog w) A (exec (.For target iter body [] pos) env) Q s := by
  refine wpC_For (hit _ ?_) hs
  have hl := list_in N hr
  have hlt : r < s.heap.objs.size := Heap.lt_size (N _ hr).1
  have hne : r ≠ s.heap.objs.size := Nat.ne_of_lt hlt
  refine wpAny_pyIter_list hl ?_
  have up : ∀ (o : Obj) b o', s.heap.get? b = some o' → (s.heap.push o).get? b = some o' := fun o b o' e => Heap.get?_push_of_some _ e
  have hL : env.locals ≠ r := fun q => (N _ hr).2.1 q.symm
  have WL := Walks.list (prog := prog) (w := w) hh s.heap.objs.size r hne vs.toArray
  have hIL : env.locals ≠ s.heap.objs.size := Nat.ne_of_lt F.ns.lt
  have hI₀ := next_is_new F
  refine codeC_forLoopT
    (fun k' s' => ∃ h' tk m' news' i, s' = { s with heap := h', toks := tk } ∧ (h'.IsListIter s.heap.objs.size r i ∧ h'.IsList r vs.toArray) ∧ Fr h₀ env.locals h' m' ∧ News h₀ env.locals h' news' ∧ (∀ p ∈ news', p.1 ≠ s.heap.objs.size) ∧ (r, W.listOf vs.toArray k) ∈ news' ∧ J i m' news' ∧ i ≤ vs.length ∧ k' = vs.length + 1 - i) ?_ (vs.length + 1)
    ⟨_, _, m, news, 0, rfl, ⟨⟨_, Heap.get?_push_size _ rfl, rfl, rfl⟩, list_in (N.grown (up _)) hr⟩, F.keeps (up _), N.grown (up _), fun p hp => Nat.ne_of_lt (Heap.lt_size (N p hp).1), hr, h0, Nat.zero_le _, rfl⟩
  intro k' s' hI
  refine hideG fun Z hZ => ?_
  refine ex5 hI ?_
  clear hI
  intro h' tk m' news' i hI
  refine an9 hI ?_
  clear hI
  intro e0 hst' F' N' off' hS' hJ hi e1
  subst e0 e1
  refine hZ ?_
  clear hZ Z
  by_cases hlt : i < vs.length
  · refine WL.item i _ _ _ (by simpa using hlt) hst' fun v h₁ tk₁ hP hst₁ hk₁ => ?_
    have F₁ := fr_but F' hk₁ hIL hI₀
    have N₁ := news_but N' hk₁ off'
    have hv : vs[i]? = some v := by simpa using hP
    obtain ⟨oI, heI, _⟩ := hst₁.1
    have hst₁' := hst₁.1
    have go : wpAny (model prog w) A (assign target env v) (fun _ s₂ => wpC (model prog w) A (execs body env) (fun f s₃ => match f with
          | .next | .cont => ∃ m, m < vs.length + 1 - i ∧ ∃ h' tk m' news' i, s₃ = { s with heap := h', toks := tk } ∧ (h'.IsListIter s.heap.objs.size r i ∧ h'.IsList r vs.toArray) ∧ Fr h₀ env.locals h' m' ∧ News h₀ env.locals h' news' ∧ (∀ p ∈ news', p.1 ≠ s.heap.objs.size) ∧ (r, W.listOf vs.toArray k) ∈ news' ∧ J i m' news' ∧ i ≤ vs.length ∧ m = vs.length + 1 - i
          | .brk => Q .next s₃
          | .ret v => Q (.ret v) s₃) s₂) (fun _ _ => False) { s with heap := h₁, toks := tk₁ } := by
      refine wpAny_mono (step i v _ oI m' news' h₁ tk₁ hv ⟨hvs v (List.mem_of_getElem? hv), hJ⟩ off' hS' F₁ (fun p hp => ?_)) (fun _ s₂ h₂ => wpC_mono h₂ (fun f s₃ h₃ => ?_)) fun _ _ x => x
      · rcases List.mem_cons.mp hp with rfl | hp
        · exact ⟨heI, Ne.symm hIL, hI₀⟩
        · exact N₁ p hp
      · rcases h₃ with ⟨rfl, h₃', tk₃, m₃, news₃, rfl, F₃, N₃, off₃, hS₃, hJ₃⟩ | ⟨v, rfl, h₃⟩
        · have N₃' : News h₀ env.locals h₃' news₃ := fun p hp => N₃ p (List.mem_cons_of_mem _ hp)
          refine ⟨vs.length + 1 - (i + 1), Nat.sub_lt_sub_left (Nat.lt_succ_of_lt hlt) (Nat.lt_succ_self i), h₃', tk₃, m₃, news₃, i + 1, rfl, ⟨?_, list_in N₃' hS₃⟩, F₃, N₃', off₃, hS₃, hJ₃, hlt, rfl⟩
          obtain ⟨o', e', r'⟩ := hst₁'
          rw [heI] at e'
          cases e'
          exact ⟨oI, (N₃ _ List.mem_cons_self).1, r'⟩
        · exact h₃
    rcases ht with ht | ⟨elts, x1, pos, rfl⟩
    · exact wpAny_of_eq (ht _ v) go
    · obtain ⟨T, rfl⟩ := hvs v (List.mem_of_getElem? hv)
      exact wpAny_letOwnedTupleGo_listiter (s := { s with heap := h₁, toks := tk₁ }) hst₁.1 go
  · obtain rfl : i = vs.length := Nat.le_antisymm hi (Nat.not_lt.mp hlt)
    have hst'' := hst'
    rw [← List.size_toArray] at hst''
    refine WL.done _ _ _ hst'' fun h₁ tk₁ hk₁ => ?_
    exact fin h₁ tk₁ m' news' (fr_but F' hk₁ hIL hI₀) (news_but N' hk₁ off') hJ
end
noncomputable abbrev a4B : List Stmt := lit (match a4 with | .For _ _ b _ _ => b | _ => []) _ (by conv => lhs; whnf)
noncomputable abbrev w0 : Stmt := lit (nthSt a4B 0) _ (by conv => lhs; whnf)
noncomputable abbrev w1 : Stmt := lit (nthSt a4B 1) _ (by conv => lhs; whnf)
noncomputable abbrev w2 : Stmt := lit (nthSt a4B 2) _ (by conv => lhs; whnf)
noncomputable abbrev w3 : Stmt := lit (nthSt a4B 3) _ (by conv => lhs; whnf)
theorem a4B_is : a4B = [w0, w1, w2, w3] := rfl
theorem asc_low {x : Str} (h : Asc x) : ∀ c ∈ Mine.T x, c < 128 := fun c hc => by
  have : ∀ c ∈ signsC, c < 128 := by decide
  exact this c (h.out c hc)
/-- a plain name of a text -/
structure PlainOf (x b y : Str) : Prop where
  tb : Mine.T b = mB (Mine.T x)
  ty : Mine.T y = dotE (mE (Mine.T x))
theorem PlainOf.mk' {x b y : Str} (h1 : Mine.T b = (bt (Mine.T x) (sp (Mine.T x) x.length).2 x.length).1) (h2 : Mine.T y = (if (bt (Mine.T x) (sp (Mine.T x) x.length).2 x.length).2 = [] then [] else 46 :: (bt (Mine.T x) (sp (Mine.T x) x.length).2 x.length).2)) : PlainOf x b y := by
  have e : x.length = (Mine.T x).length := (T_len x).symm
  rw [e] at h1 h2
  refine ⟨h1.trans (bt_mB _), ?_⟩
  have e2 := bt_mE (Mine.T x)
  unfold cut at e2
  rw [e2] at h2
  exact h2
theorem asc_x {x : Str} (h : Asc x) : Asc (Str.ofString "x" ++ x) := (asc_of (by decide +kernel)).app h
theorem asc_longer {x : Str} (h : Asc x) : Asc (Str.ofString "longer" ++ x) := (asc_of (by decide +kernel)).app h
theorem len_x (x : Str) : (Str.ofString "x" ++ x).length = 1 + x.length := by rw [← T_len, T_add, List.length_append, T_len]; rfl
theorem len_longer (x : Str) : (Str.ofString "longer" ++ x).length = 6 + x.length := by rw [← T_len, T_add, List.length_append, T_len]; rfl
theorem mB_len8 (l : List Nat) : (mB l).length ≤ 8 := Nat.le_trans (fin_len _) (Nat.le_trans (List.length_take_le _ _) (Nat.min_le_right _ _))
theorem sp_pos {l : List Nat} (h : 1 ≤ l.length) : ∀ i, 1 ≤ (sp l i).2
  | 0 => h
  | i + 1 => by
    by_cases q : l[i]? = some 46
    · cases hs : (sp l i).1 with
      | true =>
        rw [sp_dot q hs]
        obtain ⟨j, hj, _⟩ := (sp_seen l i).mp hs
        exact Nat.lt_of_le_of_lt (Nat.zero_le j) hj
      | false => rw [sp_dot0 q hs]; exact sp_pos h i
    · rw [sp_sign q]; exact sp_pos h i
theorem mB_cons {c : Nat} {l : List Nat} (hc : mapS c ≠ 32) : mB (c :: l) ≠ [] := by
  have h1 : 1 ≤ cut (c :: l) := sp_pos (by rw [List.length_cons]; exact Nat.succ_le_succ (Nat.zero_le _)) _
  unfold mB
  obtain ⟨k, hk⟩ : ∃ k, min (cut (c :: l)) 8 = k + 1 := ⟨min (cut (c :: l)) 8 - 1, by omega⟩
  rw [hk, List.take_succ_cons]
  intro e
  have : fin ([c] ++ l.take k) = [] := e
  rw [fin_app, fin_one, if_pos hc] at this
  cases this
theorem mB_x (x : Str) : mB (Mine.T (Str.ofString "x" ++ x)) ≠ [] := by
  rw [T_add]
  exact mB_cons (c := 120) (by decide)
theorem mB_longer (x : Str) : mB (Mine.T (Str.ofString "longer" ++ x)) ≠ [] := by
  rw [T_add]
  exact mB_cons (c := 108) (l := [111, 110, 103, 101, 114] ++ Mine.T x) (by decide)
theorem ne_of_ne {b : Str} {l : List Nat} (h : Mine.T b = l) (hn : (b == Str.ofString "") = false) : l ≠ [] := fun e => by
  have : b = Str.ofString "" := T_inj (h.trans (e.trans rfl))
  rw [this] at hn
  exact absurd hn (by decide)
theorem app_end {h : Heap} {D wl : Addr} {o o0 T : Obj} (Nl : News h₀ L h [(wl, o)]) (Nk : ∀ p ∈ ((D, T) :: (wl, o0) :: news), p.1 ≠ wl → News h₀ L h [p]) (hne : D ≠ wl) (hoff : ∀ p ∈ news, p.1 ≠ wl) : News h₀ L h ((wl, o) :: (D, T) :: news) :=
  News.of_one fun p hp => by
    revert p hp
    exact all_c Nl (all_c (Nk _ (.head _) hne) (fun p hp => Nk _ (.tail _ (.tail _ hp)) (hoff p hp)))
theorem lay_L01c_1 : True := by
  k_with "call ref" => (first | (k_here; (with_reducible show wpAny _ _ (call (Value.ref 633) _ _) _ _ _); k_dflt (refine' c_written (by k_asm) (by k_asm) (by k_asm) (by k_asm) (by k_asm) (by first | exact rfl | assumption) (by walk_at "my:room") (by walk_at "my:room") ?_; k_whole); intro x9 t9 h9 tk9 l9 s9 F9 N9; (have a9 := Hd.mk (asc_low s9)); (try dsimp only); (try k_fold)) | fail)
  k_with "call ref" => (first | (k_here; (with_reducible show wpAny _ _ (call (Value.ref 640) _ _) _ _ _); k_dflt (refine' c_plain (by k_asm) (by k_asm) (by k_asm) (by k_asm) (by k_asm) (by first | exact rfl | assumption) (by walk_at "my:room") (by walk_at "my:room") (by first | exact Hd.out (by with_reducible assumption) | walk_at "my:le64") (by with_reducible assumption) ?_; k_whole); intro l9 b9 y9 tb9 ty9 h9 tk9 e19 e29 F9 N9; (have p9 := PlainOf.mk' e19 e29); clear e19 e29; (try dsimp only); (try k_fold)) | fail)
  trivial
theorem g4_text {QF : Flow → Shared → Prop} {fa cd : Addr} {n : Int} {tn : Tok}  (l_number : m (Str.ofString "number") = some (.int n tn)) (B : Below A₀ h₀ [] h₀) (F : Fr h₀ L s.heap m) (X : (KK w.params).In h₀) (N : News h₀ L s.heap news) (T : Top VW LO mean mg mb h₀) (hd : dp + 100 < recursionLimit) (hu : un + 1000 < cLine)
    (ret : ∀ m' h' tk' x t l b y tb ty, x.length ≤ 15 → Asc x → PlainOf x b y → Keep [Str.ofString "text", Str.ofString "plain"] m m' → m' (Str.ofString "text") = some (.str x t) → m' (Str.ofString "plain") = some (.ref l) → Fr h₀ L h' m' → News h₀ L h' ((l, { cls := .type "tuple", data := .seq #[.str b tb, .str y ty] 0 }) :: news) → QF .next { s with heap := h', toks := tk' }) :
    wpAny (model PR w) (LA dp un L fa cd) (execs [w0, w1] (LE L fa cd)) QF E s := by
  have d0 : KtsDicts (([] : List Env).filterMap (·.frame)) h₀ := ktsDicts_nil
  have e0 : fo [(Str.ofString "number", .int n tn)] m = m := fo_cons (by assumption) (fo_nil)
  have k0 : Keep [Str.ofString "text", Str.ofString "plain"] m (fo [(Str.ofString "number", .int n tn)] m) := Keep.of_eq e0
  replace F := e0.symm ▸ F
  clear e0
  dsimp only [w0, w1, lit]
  k_steps
  all_goals (try k_data)
  all_goals (refine' ret _ _ _ _ _ _ _ _ _ _ ?g0 ?g1 ?g2 ?k ?q0 ?q1 ?f ?n; walk_at "my:end"; (case q0 => exact rfl); (case q1 => exact rfl); (case g0 => with_reducible assumption); (case g1 => with_reducible assumption); (case g2 => with_reducible assumption))
theorem g4_if {QF : Flow → Shared → Prop} {fa cd : Addr} {x b y : Str} {tx tb ty : Tok} {l : Addr} {dv : Bool} (hl : (l, { cls := .type "tuple", data := .seq #[.str b tb, .str y ty] 0 }) ∈ news) (hx : x.length ≤ 15) (ha : Asc x) (hp : PlainOf x b y) (l_text : m (Str.ofString "text") = some (.str x tx)) (l_plain : m (Str.ofString "plain") = some (.ref l)) (l_deep : m (Str.ofString "deep") = some (.bool dv)) (B : Below A₀ h₀ [] h₀) (F : Fr h₀ L s.heap m) (X : (KK w.params).In h₀) (N : News h₀ L s.heap news) (T : Top VW LO mean mg mb h₀) (hd : dp + 100 < recursionLimit) (hu : un + 1000 < cLine)
    (ret : ∀ m' h' tk' x2 t2 l2 b2 y2 tb2 ty2, x2.length ≤ 21 → Asc x2 → PlainOf x2 b2 y2 → mB (Mine.T x2) ≠ [] → Keep [Str.ofString "text", Str.ofString "plain"] m m' → m' (Str.ofString "text") = some (.str x2 t2) → m' (Str.ofString "plain") = some (.ref l2) → Fr h₀ L h' m' → News h₀ L h' ((l2, { cls := .type "tuple", data := .seq #[.str b2 tb2, .str y2 ty2] 0 }) :: news) → QF .next { s with heap := h', toks := tk' }) :
    wpAny (model PR w) (LA dp un L fa cd) (exec w2 (LE L fa cd)) QF E s := by
  have d0 : KtsDicts (([] : List Env).filterMap (·.frame)) h₀ := ktsDicts_nil
  have e0 : fo [(Str.ofString "text", .str x tx), (Str.ofString "plain", .ref l), (Str.ofString "deep", .bool dv)] m = m := fo_cons (by assumption) (fo_cons (by assumption) (fo_cons (by assumption) (fo_nil)))
  have k0 : Keep [Str.ofString "text", Str.ofString "plain"] m (fo [(Str.ofString "text", .str x tx), (Str.ofString "plain", .ref l), (Str.ofString "deep", .bool dv)] m) := Keep.of_eq e0
  replace F := e0.symm ▸ F
  clear e0
  have hb : b.length ≤ 8 := by rw [← T_len, hp.tb]; exact mB_len8 _
  have A1 := Hd.mk (asc_low (asc_x ha))
  have A2 := Hd.mk (asc_low (asc_longer ha))
  have B1 : Hd ((Str.ofString "x" ++ x).length ≤ 64) := ⟨by rw [len_x]; omega⟩
  have B2 : Hd ((Str.ofString "longer" ++ x).length ≤ 64) := ⟨by rw [len_longer]; omega⟩
  dsimp only [w2, lit]
  k_steps
  all_goals (try k_data)
  all_goals first
    | (rename PlainOf (_ ++ _) _ _ => p8; refine' ret _ _ _ _ _ _ _ _ _ _ ?g0 ?g1 p8 ?g2 ?k ?q0 ?q1 ?f ?n; walk_at "my:end"; (case q0 => exact rfl); (case q1 => exact rfl); (case g0 => first | (rw [len_x]; omega) | (rw [len_longer]; omega)); (case g1 => first | exact asc_x ha | exact asc_longer ha); (case g2 => first | exact mB_x x | exact mB_longer x))
    | (rename (b == _) = false => hb0; refine' ret _ _ _ x tx l b y tb ty ?g0 ha hp (ne_of_ne hp.tb hb0) ?k ?q0 ?q1 ?f ?n; (case n => intro p hp; (rcases List.mem_cons.mp hp with rfl | hp); exact N _ hl; exact N _ hp); (case g0 => omega); (case f => walk_at "my:fr"); (case k => walk_at "my:keeps"); (case q0 => exact rfl); (case q1 => exact rfl))
theorem g4_app {QF : Flow → Shared → Prop} {fa cd : Addr} {x b y : Str} {tx tb ty : Tok} {l wl : Addr} {ws : List Value} {k : Nat} {n : Int} {tn : Tok} (hl : (l, { cls := .type "tuple", data := .seq #[.str b tb, .str y ty] 0 }) ∈ news) (hoff : ∀ p ∈ news, p.1 ≠ wl) (hw : Hd (ws.length ≤ 5)) (l_text : m (Str.ofString "text") = some (.str x tx)) (l_plain : m (Str.ofString "plain") = some (.ref l)) (l_wanted : m (Str.ofString "wanted") = some (.ref wl)) (l_number : m (Str.ofString "number") = some (.int n tn)) (B : Below A₀ h₀ [] h₀) (F : Fr h₀ L s.heap m) (X : (KK w.params).In h₀) (N : News h₀ L s.heap ((wl, W.listOf ws.toArray k) :: news)) (T : Top VW LO mean mg mb h₀) (hd : dp + 100 < recursionLimit) (hu : un + 1000 < cLine)
    (ret : ∀ m' h' tk' t t1 t2 t3 mk tm, (mk = 16 ∨ mk = 32) → wl < t → (∀ p ∈ news, p.1 < t) → Keep [] m m' → Fr h₀ L h' m' → News h₀ L h' ((wl, W.listOf (ws ++ [Value.ref t]).toArray (k + 1)) :: (t, { cls := .type "tuple", data := .seq #[.str x t1, .str b t2, .str y t3, .int mk tm] 0 }) :: news) → QF .next { s with heap := h', toks := tk' }) :
    wpAny (model PR w) (LA dp un L fa cd) (exec w3 (LE L fa cd)) QF E s := by
  have d0 : KtsDicts (([] : List Env).filterMap (·.frame)) h₀ := ktsDicts_nil
  have e0 : fo [(Str.ofString "text", .str x tx), (Str.ofString "plain", .ref l), (Str.ofString "wanted", .ref wl), (Str.ofString "number", .int n tn)] m = m := fo_cons (by assumption) (fo_cons (by assumption) (fo_cons (by assumption) (fo_cons (by assumption) (fo_nil))))
  have k0 : Keep [] m (fo [(Str.ofString "text", .str x tx), (Str.ofString "plain", .ref l), (Str.ofString "wanted", .ref wl), (Str.ofString "number", .int n tn)] m) := Keep.of_eq e0
  replace F := e0.symm ▸ F
  clear e0
  dsimp only [w3, lit]
  k_steps
  all_goals (try k_data)
  all_goals
    (rename Fr h₀ L _ _ => F1; rename News h₀ L _ _ => N1; rename _ ∧ AllLt _ _ => lt9)
    refine app_L (items := ws) (n := k) F1 N1 (.tail _ (.head _)) (Nat.le_trans hw.out (by decide)) (fun h2 F2 Nk Nl => ?_)
    try dsimp only
    k_steps
    have N3 := app_end Nl Nk (Nat.ne_of_gt lt9.1) hoff
    refine' ret _ _ _ _ _ _ _ _ _ ?g0 lt9.1 (fun p hp => ktn_ltOf lt9.2 p hp) ?k F2 ?n
    (case k => walk_at "my:keeps")
    (case n => with_reducible assumption)
    (case g0 => first | exact .inl rfl | exact .inr rfl)
theorem wpAny_execs_app {M : Model} {A : Around} {env : Env} {xs rest : List Stmt} {Q : Flow → Shared → Prop} (h : wpAny M A (execs xs env) (fun f s' => match f with | .next => wpAny M A (execs rest env) Q E s' | f => Q f s') E s) : wpAny M A (execs (xs ++ rest) env) Q E s := fun Γ p hΓ => by
  refine wp_execs_app (Sem.wp_mono M Γ _ (fun f p' s' hf => ?_) (fun _ _ _ e => e) p s (h Γ p hΓ))
  cases f with
  | next => exact hf Γ p' hΓ
  | _ => exact hf
def IsTup (o : Obj) : Prop := o.cls = .type "tuple" ∧ ∃ its n, o.data = .seq its n
/-- a wanted name: its text, its plain name, its mark -/
def WantV (news : List (Addr × Obj)) (v : Value) : Prop := ∃ t x b y mk t1 t2 t3 t4, v = .ref t ∧ (t, ({ cls := .type "tuple", data := .seq #[.str x t1, .str b t2, .str y t3, .int mk t4] 0 } : Obj)) ∈ news ∧ x.length ≤ 21 ∧ Asc x ∧ PlainOf x b y ∧ mB (Mine.T x) ≠ [] ∧ (mk = 16 ∨ mk = 32)
theorem WantV.mono {news news' : List (Addr × Obj)} {v : Value} (h : WantV news v) (hs : ∀ p ∈ news, p ∈ news') : WantV news' v :=
  ex8 h fun t x b y mk t1 t2 t3 h => h.elim fun t4 h => xi8 t x b y mk t1 t2 t3 ⟨t4, h.1, hs _ h.2.1, h.2.2⟩
theorem WantV.elim {news : List (Addr × Obj)} {v : Value} {Z : Prop} (z : WantV news v) (k : ∀ t x b y mk t1 t2 t3 t4, v = .ref t → (t, ({ cls := .type "tuple", data := .seq #[.str x t1, .str b t2, .str y t3, .int mk t4] 0 } : Obj)) ∈ news → x.length ≤ 21 → Asc x → PlainOf x b y → mB (Mine.T x) ≠ [] → (mk = 16 ∨ mk = 32) → Z) : Z :=
  ex8 z fun t x b y mk t1 t2 t3 h => h.elim fun t4 h => k t x b y mk t1 t2 t3 t4 h.1 h.2.1 h.2.2.1 h.2.2.2.1 h.2.2.2.2.1 h.2.2.2.2.2.1 h.2.2.2.2.2.2
theorem ints_at : ∀ {vs : List Value} {ns : List Int} {i : Nat} {v : Value}, IntsAre vs ns → vs[i]? = some v → ∃ n t, v = .int n t
  | _, [], i, v, h, hv => by rw [h.nil_inv] at hv; cases hv
  | _, n :: ns, i, v, h, hv => by
    obtain ⟨t, w, rfl, h'⟩ := h.cons_inv
    cases i with
    | zero => exact ⟨n, t, (Option.some.inj hv).symm⟩
    | succ i => exact ints_at h' hv
theorem g4_loop {QF : Flow → Shared → Prop} {fa cd nl wl : Addr} {vs : List Value} {ns : List Int} {k0 : Nat} {dv : Bool} (hi : IntsAre vs ns) (h5 : ns.length ≤ 5) (hnl : (nl, W.listOf vs.toArray k0) ∈ news) (hoff : ∀ p ∈ news, p.1 ≠ wl) (l_numbers : m (Str.ofString "numbers") = some (.ref nl)) (l_wanted : m (Str.ofString "wanted") = some (.ref wl)) (l_deep : m (Str.ofString "deep") = some (.bool dv)) (B : Below A₀ h₀ [] h₀) (F : Fr h₀ L s.heap m) (X : (KK w.params).In h₀) (N : News h₀ L s.heap ((wl, W.listOf #[] 0) :: news)) (T : Top VW LO mean mg mb h₀) (hd : dp + 100 < recursionLimit) (hu : un + 1000 < cLine)
    (ret : ∀ m' h' tk' (ws : List Value) (k : Nat) (nx : List (Addr × Obj)), ws.length = vs.length → (∀ v ∈ ws, WantV nx v) → (∀ p ∈ news, p ∈ nx) → (∀ p ∈ nx, p.1 ≠ wl) → (∀ p ∈ nx, p ∈ news ∨ IsTup p.2) → Keep [Str.ofString "number", Str.ofString "text", Str.ofString "plain"] m m' → Fr h₀ L h' m' → News h₀ L h' ((wl, W.listOf ws.toArray k) :: nx) → QF .next { s with heap := h', toks := tk' }) :
    wpAny (model PR w) (LA dp un L fa cd) (exec a4 (LE L fa cd)) QF E s := by
  refine For_L F rfl rfl (nameX_L F l_numbers ?_ rfl rfl)
  refine ForSrcL.intro (vs := vs) (k := k0) (fun i m₁ news₁ => ∃ ws k nx, news₁ = (wl, W.listOf ws.toArray k) :: nx ∧ ws.length = i ∧ (∀ v ∈ ws, WantV nx v) ∧ (∀ p ∈ news, p ∈ nx) ∧ (∀ p ∈ nx, p.1 ≠ wl) ∧ (∀ p ∈ nx, p ∈ news ∨ IsTup p.2) ∧ Keep [Str.ofString "number", Str.ofString "text", Str.ofString "plain"] m m₁) rfl F N (.tail _ hnl)
    (xi3 [] 0 news ⟨rfl, rfl, (fun _ h => nomatch h), (fun _ h => h), hoff, (fun _ h => .inl h), Keep.of_eq rfl⟩) ?_ ?_
  · intro i v I oI m₁ news₁ h tk hv hJ off hr F' N'
    refine hideG fun Z hZ => ?_
    refine ex3 hJ ?_
    clear hJ
    intro ws k nx hJ
    refine an7 hJ ?_
    clear hJ
    intro e0 hl hw hsub hne htup kp
    subst e0
    obtain ⟨n, t, rfl⟩ := ints_at hi hv
    refine hZ ?_
    clear hZ Z
    have hlen : i < 5 := by
      have h1 := (List.getElem?_eq_some_iff.mp hv).1
      have h2 := hi.length
      omega
    have kp1 : Keep [Str.ofString "number", Str.ofString "text", Str.ofString "plain"] m (fun y => if y = Str.ofString "number" then some (.int n t) else m₁ y) := kp.step (by decide)
    show wpAny _ _ (execs ([w0, w1] ++ [w2, w3]) _) _ _ _
    refine wpAny_execs_app ?_
    refine' g4_text (n := n) (tn := t) (if_pos rfl) B F' X N' T hd hu (fun m2 h2 tk2 x tx l b y tb ty hx ha hp k2 lt lp F2 N2 => ?_)
    dsimp only
    refine wpAny_execs_cons ?_
    refine' g4_if (.head _) hx ha hp lt lp (k2.at (kp1.at l_deep)) B F2 X N2 T hd hu (fun m3 h3 tk3 x3 tx3 l3 b3 y3 tb3 ty3 hx3 ha3 hp3 hB3 k3 lt3 lp3 F3 N3 => ?_)
    dsimp only
    refine wpAny_execs_cons ?_
    have hI : I ≠ wl := Ne.symm (off _ (.head _))
    have N4 : News h₀ L h3 ((wl, W.listOf ws.toArray k) :: (l3, { cls := .type "tuple", data := .seq #[.str b3 tb3, .str y3 ty3] 0 }) :: (I, oI) :: nx) := fun p hp => by
      revert p hp
      exact all_c (N3 _ (.tail _ (.tail _ (.tail _ (.head _))))) (all_c (N3 _ (.head _)) (all_c (N3 _ (.tail _ (.tail _ (.head _)))) (fun p hp => N3 _ (.tail _ (.tail _ (.tail _ (.tail _ hp)))))))
    have hl3 : l3 ≠ wl := News.ne N4 (.tail _ (.head _)) (.head _) (cls_ne rfl rfl (by decide))
    have hof4 : ∀ p ∈ ((l3, ({ cls := .type "tuple", data := .seq #[.str b3 tb3, .str y3 ty3] 0 } : Obj)) :: (I, oI) :: nx), p.1 ≠ wl := fun p hp => by
      revert p hp
      exact all_c hl3 (all_c hI hne)
    have ln := (k3.mono (ns' := [Str.ofString "text", Str.ofString "plain"]) (fun _ h => h)).at (k2.at (if_pos rfl : (fun y => if y = Str.ofString "number" then some (Value.int n t) else m₁ y) (Str.ofString "number") = some (.int n t)))
    refine' g4_app (.head _) hof4 ⟨by omega⟩ lt3 lp3 (k3.at (k2.at (kp1.at l_wanted))) ln B F3 X N4 T hd hu (fun m5 h5 tk5 t5 t51 t52 t53 mk5 tm5 hmk lw lt5 k5 F5 N5 => ?_)
    dsimp only
    refine wpAny_execs_nil ?_
    have kp5 : Keep [Str.ofString "number", Str.ofString "text", Str.ofString "plain"] m m5 := ((kp1.trans (k2.mono (by decide))).trans (k3.mono (by decide))).trans (k5.mono (by decide))
    refine ⟨h5, tk5, m5, (wl, W.listOf (ws ++ [Value.ref t5]).toArray (k + 1)) :: (t5, { cls := .type "tuple", data := .seq #[.str x3 t51, .str b3 t52, .str y3 t53, .int mk5 tm5] 0 }) :: nx, rfl, F5, fun p hp => ?_, fun p hp => ?_, ?_, _, _, _, rfl, ?_, ?_, ?_, ?_, ?_, kp5⟩
    · revert p hp
      exact all_c (N5 _ (.tail _ (.tail _ (.tail _ (.head _))))) (all_c (N5 _ (.head _)) (all_c (N5 _ (.tail _ (.head _))) (fun p hp => N5 _ (.tail _ (.tail _ (.tail _ (.tail _ hp)))))))
    · revert p hp
      exact all_c (Ne.symm hI) (all_c (Ne.symm (Nat.ne_of_lt (lt5 _ (.tail _ (.head _))))) (fun p hp => off p (.tail _ hp)))
    · exact .tail _ (.tail _ (hsub _ hnl))
    · rw [List.length_append, hl]; rfl
    · intro v hv
      revert v hv
      refine all_a (fun v hv => (hw v hv).mono fun p hp => .tail _ hp) (fun v hv => ?_)
      · rw [List.mem_singleton.mp hv]
        exact xi8 t5 x3 b3 y3 mk5 t51 t52 t53 ⟨tm5, rfl, .head _, hx3, ha3, hp3, hB3, hmk⟩
    · exact fun p hp => .tail _ (hsub p hp)
    · intro p hp
      revert p hp
      exact all_c (Ne.symm (Nat.ne_of_lt lw)) hne
    · intro p hp
      revert p hp
      exact all_c (.inr ⟨rfl, _, _, rfl⟩) htup
  · intro h' tk m' news' F' N' hJ
    refine hideG fun Z hZ => ?_
    refine ex3 hJ ?_
    clear hJ
    intro ws k nx hJ
    refine an7 hJ ?_
    clear hJ
    intro e0 hl hw hsub hne htup kp
    subst e0
    refine hZ ?_
    clear hZ Z
    exact ret m' h' tk ws k nx hl hw hsub hne htup kp F' N'
theorem g5_base {QF : Flow → Shared → Prop} {fa cd wl t0 : Addr} {wr : List Value} {k : Nat} {x b y : Str} {mk : Int} {t1 t2 t3 t4 : Tok} {co : Obj} {v₀ : Option Value} (hwl : (wl, W.listOf (Value.ref t0 :: wr).toArray k) ∈ news) (ht0 : (t0, ({ cls := .type "tuple", data := .seq #[.str x t1, .str b t2, .str y t3, .int mk t4] 0 } : Obj)) ∈ news) (hz : Hd (wr.length ≤ 8)) (hco : co.data = .cell v₀) (hoff : ∀ p ∈ news, p.1 ≠ L + 2) (l_wanted : m (Str.ofString "wanted") = some (.ref wl)) (B : Below A₀ h₀ [] h₀) (F : Fr h₀ L s.heap m) (X : (KK w.params).In h₀) (N : News h₀ L s.heap ((L + 2, co) :: news)) (T : Top VW LO mean mg mb h₀) (hd : dp + 100 < recursionLimit) (hu : un + 1000 < cLine)
    (ret : ∀ m' h' tk' co2, co2.data = .cell (some (.str b t2)) → Keep [] m m' → Fr h₀ L h' m' → News h₀ L h' ((L + 2, co2) :: news) → QF .next { s with heap := h', toks := tk' }) :
    wpAny (model PR w) (LA dp un L fa cd) (exec a5 (LE L fa cd)) QF E s := by
  have d0 : KtsDicts (([] : List Env).filterMap (·.frame)) h₀ := ktsDicts_nil
  have e0 : fo [(Str.ofString "wanted", .ref wl)] m = m := fo_cons (by assumption) (fo_nil)
  have k0 : Keep [] m (fo [(Str.ofString "wanted", .ref wl)] m) := Keep.of_eq e0
  replace F := e0.symm ▸ F
  clear e0
  dsimp only [a5, lit]
  k_steps
  all_goals (try k_data)
  all_goals (rename Fr h₀ L _ _ => F1; rename News h₀ L _ _ => N1; exact storeX_C F1 N1 rfl (UpdF.head hoff) hco (fun h' o' F2 N2 d2 => ret _ h' _ o' d2 k0 F2 N2) rfl rfl)
theorem g6_tail {QF : Flow → Shared → Prop} {fa cd wl t0 : Addr} {wr : List Value} {k : Nat} {x b y : Str} {mk : Int} {t1 t2 t3 t4 : Tok} {co : Obj} {v₀ : Option Value} (hwl : (wl, W.listOf (Value.ref t0 :: wr).toArray k) ∈ news) (ht0 : (t0, ({ cls := .type "tuple", data := .seq #[.str x t1, .str b t2, .str y t3, .int mk t4] 0 } : Obj)) ∈ news) (hz : Hd (wr.length ≤ 8)) (hco : co.data = .cell v₀) (hoff : ∀ p ∈ news, p.1 ≠ L + 3) (l_wanted : m (Str.ofString "wanted") = some (.ref wl)) (B : Below A₀ h₀ [] h₀) (F : Fr h₀ L s.heap m) (X : (KK w.params).In h₀) (N : News h₀ L s.heap ((L + 3, co) :: news)) (T : Top VW LO mean mg mb h₀) (hd : dp + 100 < recursionLimit) (hu : un + 1000 < cLine)
    (ret : ∀ m' h' tk' co2, co2.data = .cell (some (.str y t3)) → Keep [] m m' → Fr h₀ L h' m' → News h₀ L h' ((L + 3, co2) :: news) → QF .next { s with heap := h', toks := tk' }) :
    wpAny (model PR w) (LA dp un L fa cd) (exec a6 (LE L fa cd)) QF E s := by
  have d0 : KtsDicts (([] : List Env).filterMap (·.frame)) h₀ := ktsDicts_nil
  have e0 : fo [(Str.ofString "wanted", .ref wl)] m = m := fo_cons (by assumption) (fo_nil)
  have k0 : Keep [] m (fo [(Str.ofString "wanted", .ref wl)] m) := Keep.of_eq e0
  replace F := e0.symm ▸ F
  clear e0
  dsimp only [a6, lit]
  k_steps
  all_goals (try k_data)
  all_goals (rename Fr h₀ L _ _ => F1; rename News h₀ L _ _ => N1; exact storeX_C F1 N1 rfl (UpdF.head hoff) hco (fun h' o' F2 N2 d2 => ret _ h' _ o' d2 k0 F2 N2) rfl rfl)
/-! ## comprehensions whose turns let the ledger grow -/
section
open LCg
variable {prog : Program} {A : Around} {env : Env}
theorem rest_grow {elt : Expr} {x : Str} {scope : Scope} {cl : List (Str × Addr)} {s : Shared} {S : List (Addr × Obj) → Prop} {P : Nat → Value → Prop} {Fin : List Value → List (Addr × Obj) → Prop} {news : List (Addr × Obj)} {n : Nat} (J : List (Addr × Obj) → Nat → List Value → List (Addr × Obj) → Prop)
    (h0 : J news 0 [] news)
    (turn : ∀ i v I oI C oC D m₂ ys nw h tk (E' : Value → Shared → Prop), i < n → P i v → J news i ys nw → NsObj oC m₂ → m₂ x = some v → Fr h₀ L h m → News h₀ L h ((I, oI) :: (C, oC) :: (D, lst ys) :: nw) → Off3 I C D nw → ((@Ne Nat I C) ∧ (@Ne Nat I D) ∧ (@Ne Nat C D)) →
      wpAny (model prog w) A (eval elt (compEnvC scope cl C env)) (CompEnd h₀ L m { s with heap := h, toks := tk } I oI C oC D (lst ys) S (fun y nw' => J news (i + 1) (ys ++ [y]) nw')) E' { s with heap := h, toks := tk })
    (fin : ∀ ys nw, J news n ys nw → Fin ys nw) : CompRest prog w A h₀ L m env elt x scope cl s S P Fin n 0 [] news := by
  have key : ∀ (j i : Nat) (ys : List Value) (nw : List (Addr × Obj)), i + j = n → J news i ys nw → CompRest prog w A h₀ L m env elt x scope cl s S P Fin j i ys nw := by
    intro j
    induction j with
    | zero =>
      intro i ys nw hi hy
      obtain rfl : i = n := hi
      exact CompRest.zero (fin ys nw hy)
    | succ j ih =>
      intro i ys nw hi hy
      refine CompRest.succ ?_
      intro v I oI C oC D m₂ h tk E' hv hC hx F N off ne
      refine wpAny_mono (turn i v I oI C oC D m₂ ys nw h tk E' (by omega) hv hy hC hx F N off ne) (fun y s₂ hq => ?_) fun _ _ e => e
      obtain ⟨h', tk', nw', e, F', N', off', hS, hJ⟩ := hq
      exact ⟨h', tk', nw', e, F', N', off', hS, ih (i + 1) _ _ (by omega) hJ⟩
  exact key n 0 [] news (by omega) h0
end
/-! ## comprehensions with a test whose turns let the ledger grow -/
section
open LCg LCt
variable {prog : Program} {A : Around} {env : Env}
theorem rest_growT {ct elt : Expr} {x : Str} {scope : Scope} {cl : List (Str × Addr)} {s : Shared} {S : List (Addr × Obj) → Prop} {P : Nat → Value → Prop} {Fin : List Value → List (Addr × Obj) → Prop} {news : List (Addr × Obj)} {n : Nat} (J : List (Addr × Obj) → Nat → List Value → List (Addr × Obj) → Prop)
    (h0 : J news 0 [] news)
    (turn : ∀ i v I oI C oC D m₂ ys nw h tk (E' : Value → Shared → Prop), i < n → P i v → J news i ys nw → NsObj oC m₂ → m₂ x = some v → Fr h₀ L h m → News h₀ L h ((I, oI) :: (C, oC) :: (D, lst ys) :: nw) → Off3 I C D nw → ((@Ne Nat I C) ∧ (@Ne Nat I D) ∧ (@Ne Nat C D)) →
      wpAny (model prog w) A (isTrue ct (compEnvC scope cl C env) (eval ct (compEnvC scope cl C env))) (fun ok s' => if ok = true then
        wpAny (model prog w) A (eval elt (compEnvC scope cl C env)) (CompEnd h₀ L m { s with heap := h, toks := tk } I oI C oC D (lst ys) S (fun y nw' => J news (i + 1) (ys ++ [y]) nw')) E' s'
        else CompEnd h₀ L m { s with heap := h, toks := tk } I oI C oC D (lst ys) S (fun _ nw' => J news (i + 1) ys nw') Value.none s') E' { s with heap := h, toks := tk })
    (fin : ∀ ys nw, J news n ys nw → Fin ys nw) : CompRestT prog w A h₀ L m env ct elt x scope cl s S P Fin n 0 [] news := by
  have up : ∀ {s₀ : Shared} {I C D : Addr} {oI oC oD : Obj} {R R' : Value → List (Addr × Obj) → Prop} {y : Value} {s₂ : Shared}, (∀ nw, R y nw → R' y nw) → CompEnd h₀ L m s₀ I oI C oC D oD S R y s₂ → CompEnd h₀ L m s₀ I oI C oC D oD S R' y s₂ := by
    rintro s₀ I C D oI oC oD R R' y s₂ hR ⟨h', tk', nw', e, F', N', off', hS, hJ⟩
    exact ⟨h', tk', nw', e, F', N', off', hS, hR _ hJ⟩
  have key : ∀ (j i : Nat) (ys : List Value) (nw : List (Addr × Obj)), i + j = n → J news i ys nw → CompRestT prog w A h₀ L m env ct elt x scope cl s S P Fin j i ys nw := by
    intro j
    induction j with
    | zero =>
      intro i ys nw hi hy
      obtain rfl : i = n := hi
      exact CompRestT.zero (fin ys nw hy)
    | succ j ih =>
      intro i ys nw hi hy
      refine CompRestT.succ ?_
      intro v I oI C oC D m₂ h tk E' hv hC hx F N off ne
      refine wpAny_mono (turn i v I oI C oC D m₂ ys nw h tk E' (by omega) hv hy hC hx F N off ne) (fun ok s₂ hq => ?_) fun _ _ e => e
      cases ok with
      | true =>
        rw [if_pos rfl] at hq ⊢
        exact wpAny_mono hq (fun y s₃ h₃ => up (fun nw hJ => ih (i + 1) _ _ (by omega) hJ) h₃) fun _ _ e => e
      | false =>
        rw [if_neg (by decide)] at hq ⊢
        exact up (fun nw hJ => ih (i + 1) _ _ (by omega) hJ) hq
  exact key n 0 [] news (by omega) h0
end
/-! ## a record enters the directory -/
noncomputable def dirL (px pdx pl : Addr) (od : Obj) (ents : List Ent) (k : Nat) : List (Addr × Obj) := [(pl, W.listOf (ents.map fun e => Value.ref e.x).toArray k), (px, instObj 533 pdx), (pdx, od)]
/-- neither a cell nor a table -/
def Plain (o : Obj) : Prop := (∀ v, o.data ≠ .cell v) ∧ o.cls ≠ .none
structure DirOk (P : Params) (px pdx pl : Addr) (od : Obj) (ents : List Ent) : Prop where
  rc : ∃ e8 par, IsRec P od e8 pl 16 par
  l1 : @LT.lt Nat _ pdx px
  l2 : @LT.lt Nat _ px pl
  ln : ents.length ≤ 40
/-- apart from the directory's own three objects -/
def OffD (px pdx pl : Addr) (rest : List (Addr × Obj)) : Prop := ∀ q ∈ rest, q.1 ≠ pl ∧ q.1 ≠ px ∧ q.1 ≠ pdx
theorem IsRec.plain {P : Params} {od : Obj} {e8 dl : Addr} {mk : Int} {par : Value} (h : IsRec P od e8 dl mk par) : Plain od := by
  refine h.elim ?_
  clear h
  intro u1 u2 u3 u4 u5 u6 u7 u8 u9 u10 u11 u12 u13 u14 u15 u16 u17 u18 r1 r2 r3 r4 r5 r6 r7 r8 r9 r10 r11 r12 h
  rw [h]
  exact ⟨(fun v e => by cases e), (fun e => by cases e)⟩
theorem add_core {rest : List (Addr × Obj)} {px pdx pl ex edx dl e8 : Addr} {od eod : Obj} {ents : List Ent} {k : Nat} {mk : Int} {b : Array UInt8} (B : Below A₀ base outer h₀) (F : Fr h₀ L s.heap m) (X : (KK w.params).In h₀)
    (N : News h₀ L s.heap ((dl, W.listOf #[] 0) :: (ex, instObj 533 edx) :: (edx, eod) :: (dirL px pdx pl od ents k ++ rest))) (T : Top VW LO mean mg mb h₀) (hk : cs.kind = .function) (hd : dp + 16 < recursionLimit) (hu : un + 120 < cLine)
    (D : DirOk w.params px pdx pl od ents) (off : OffD px pdx pl rest) (lt : ∀ p ∈ dirL px pdx pl od ents k ++ rest, p.1 < edx) (l3 : @LT.lt Nat _ edx ex) (l4 : @LT.lt Nat _ ex dl) (heo : IsRec w.params eod e8 dl mk .none) (hz : ents.length + 1 ≤ 40)
    (ret : ∀ eod' od' h' tk', IsRec w.params eod' e8 dl mk (.ref px) → DirOk w.params px pdx pl od' (ents ++ [⟨ex, b, mk⟩]) → Fr h₀ L h' m → News h₀ L h' (dirL px pdx pl od' (ents ++ [⟨ex, b, mk⟩]) (k + 1) ++ ((dl, W.listOf #[] 0) :: (ex, instObj 533 edx) :: (edx, eod') :: rest)) → OffD px pdx pl ((dl, W.listOf #[] 0) :: (ex, instObj 533 edx) :: (edx, eod') :: rest) → Q .none { s with heap := h', toks := tk' }) :
    wpAny (model PR w) (ktrTop dp un gd cn cs L a ccd cl outer) (call (.ref 495) [.ref px, .ref ex]) Q E s := by
  obtain ⟨n8, par, ho⟩ := D.rc
  have lpl : pl < edx := lt (pl, _) (.head _)
  have lpx : px < edx := lt (px, instObj 533 pdx) (.tail _ (.head _))
  have lpd : pdx < edx := lt (pdx, od) (.tail _ (.tail _ (.head _)))
  refine wpAny_call ?_
  refine' m_add (rest := (dl, W.listOf #[] 0) :: rest) (items := ents.map fun e => Value.ref e.x) (n := k) (mk := mk) B F X ?N9 T hk hd hu D.l1 D.l2 lpl l3 ?dis ho heo ?hz ?_
  case N9 =>
    intro p hp
    revert p hp
    exact all_c (N _ (.tail _ (.head _))) (all_c (N _ (.tail _ (.tail _ (.head _)))) (all_c (N _ (.tail _ (.tail _ (.tail _ (.head _))))) (all_c (N _ (.tail _ (.tail _ (.tail _ (.tail _ (.head _)))))) (all_c (N _ (.tail _ (.tail _ (.tail _ (.tail _ (.tail _ (.head _))))))) (all_c (N _ (.head _)) (fun p hp => N _ (.tail _ (.tail _ (.tail _ (.tail _ (.tail _ (.tail _ hp))))))))))))
  case dis =>
    intro q hq
    revert q hq
    refine all_c ?_ (fun q hq => ?_)
    · have l5 : @LT.lt Nat _ edx dl := Nat.lt_trans l3 l4
      exact ⟨Ne.symm (Nat.ne_of_lt l4), Ne.symm (Nat.ne_of_lt l5), Ne.symm (Nat.ne_of_lt (Nat.lt_trans lpl l5)), Ne.symm (Nat.ne_of_lt (Nat.lt_trans lpx l5)), Ne.symm (Nat.ne_of_lt (Nat.lt_trans lpd l5))⟩
    · have h1 : @LT.lt Nat _ q.1 edx := lt q (List.mem_append_right _ hq)
      obtain ⟨o1, o2, o3⟩ := off q hq
      exact ⟨Nat.ne_of_lt (Nat.lt_trans h1 l3), Nat.ne_of_lt h1, o1, o2, o3⟩
  case hz =>
    rw [List.length_map]
    exact Nat.le_trans hz (by decide)
  intro eod' h' tk' r1 od' r2 F' N'
  refine ret eod' od' h' tk' r1 ⟨⟨_, _, r2⟩, D.l1, D.l2, ?_⟩ F' ?_ ?_
  · rw [List.length_append]; exact hz
  · intro p hp
    unfold dirL at hp
    rw [List.map_append] at hp
    revert p hp
    exact all_c (N' _ (.tail _ (.tail _ (.head _)))) (all_c (N' _ (.tail _ (.tail _ (.tail _ (.head _))))) (all_c (N' _ (.tail _ (.tail _ (.tail _ (.tail _ (.head _)))))) (all_c (N' _ (.tail _ (.tail _ (.tail _ (.tail _ (.tail _ (.head _))))))) (all_c (N' _ (.head _)) (all_c (N' _ (.tail _ (.head _))) (fun p hp => N' _ (.tail _ (.tail _ (.tail _ (.tail _ (.tail _ (.tail _ hp))))))))))))
  · intro q hq
    revert q hq
    refine all_c ?_ (all_c (⟨Ne.symm (Nat.ne_of_lt (Nat.lt_trans lpl l3)), Ne.symm (Nat.ne_of_lt (Nat.lt_trans lpx l3)), Ne.symm (Nat.ne_of_lt (Nat.lt_trans lpd l3))⟩) (all_c (⟨Ne.symm (Nat.ne_of_lt lpl), Ne.symm (Nat.ne_of_lt lpx), Ne.symm (Nat.ne_of_lt lpd)⟩) (fun q hq => ?_)))
    · have l5 : @LT.lt Nat _ edx dl := Nat.lt_trans l3 l4
      exact ⟨Ne.symm (Nat.ne_of_lt (Nat.lt_trans lpl l5)), Ne.symm (Nat.ne_of_lt (Nat.lt_trans lpx l5)), Ne.symm (Nat.ne_of_lt (Nat.lt_trans lpd l5))⟩
    · exact off q hq
      
/-! ## the law's statements that need the stack: combinators -/
section
variable {M : Model} {A : Around} {env : Env}
theorem wpC_If {test : PySem.Expr} {body orelse : List Stmt} {pos : Pos} {Q : Flow → Shared → Prop}
    (h : wpAny M A (isTrue test env (eval test env)) (fun c s₁ => (c = true → wpC M A (execs body env) Q s₁) ∧ (c = false → wpC M A (execs orelse env) Q s₁)) (fun _ _ => False) s) : wpC M A (exec (.If test body orelse pos) env) Q s := by
  rw [arm_exec_If]
  refine wpC_bind (wpC_standAt (wpC_bind (wpC_of (wpAny_mono h (fun c s₁ h₁ => ?_) fun _ _ x => x))))
  cases c with
  | true => rw [if_pos rfl]; exact h₁.1 rfl
  | false => rw [if_neg (by decide)]; exact h₁.2 rfl
theorem wpE_call {f : Value} {pos : List Value} {Q : Value → Shared → Prop} (h : codeC M A (.call f ⟨pos, []⟩) (fun fl s' => match fl with | .ret v => Q v s' | _ => False) s) : wpE M A (call f pos []) Q E s := wpE_ofC (wpC_call h)
theorem wpE_Call {func : PySem.Expr} {args : List PySem.Expr} {pos : Pos} {Q : Value → Shared → Prop}
    (h : wpAny M A (eval func env) (fun f s₁ => wpE M A (callWith pos f [] (backTo pos (starEach args env)) []) Q E s₁) (fun _ _ => False) s)
    (he : eval (.Call func args [] pos) env = (do callWith pos (← eval func env) [] (backTo pos (starEach args env)) (backToKw pos (keywordEach [] env))) := by rfl) :
    wpE M A (eval (.Call func args [] pos) env) Q E s := by
  rw [he]; exact wpE_bind (wpE_ofC (wpC_of h))
end
/-- a call of a written function: what it is kept by -/
theorem looks_K {P : Params} {a : Addr} {k : Keeper} (hk : k = Keeper.frame ∨ k = Keeper.machine ∨ k = Keeper.boundFrame) (h : ∀ h, (KK P).In h → Looks (model PR w) h (keeperOf (.ref a)) k) : ∀ h, (KK P).In h → ∃ k, (k = Keeper.frame ∨ k = Keeper.machine ∨ k = Keeper.boundFrame) ∧ Looks (model PR w) h (keeperOf (.ref a)) k := fun g hg => ⟨k, hk, h g hg⟩
theorem ev_laid {ARG : PySem.Expr} {p1 p2 p3 : Pos} {fa cd : Addr} {mk : Int} {b : Array UInt8} {c : UInt8} {all : List (Addr × Obj)} (hb : b.size = 11) (hc : b[0]? = some c) (hc0 : c ≠ 0) (hc1 : c ≠ 229) (B : Below A₀ h₀ [] h₀) (F : Fr h₀ L s.heap m) (X : (KK w.params).In h₀) (N : News h₀ L s.heap all) (T : Top VW LO mean mg mb h₀) (hd : dp + 100 < recursionLimit) (hu : un + 1000 < cLine)
    (hA : ∀ h1 tk1 (Q' : Value → Shared → Prop), Fr h₀ L h1 m → News h₀ L h1 all → (∀ h' tk' t, Fr h₀ L h' m → News h₀ L h' all → Q' (.bytes b t) { s with heap := h', toks := tk' }) → wpAny (model PR w) (LA dp un L fa cd) (eval ARG (LE L fa cd)) Q' (fun _ _ => False) { s with heap := h1, toks := tk1 })
    (ret : ∀ x dx dl od e8 d8 ba v1 v2 v3 v4 h' tk', IsRec w.params od e8 dl mk .none → Fr h₀ L h' m → News h₀ L h' ((dl, W.listOf #[] 0) :: (x, instObj 533 dx) :: (dx, od) :: (ba, baObj b 0) :: (e8, instObj 243 d8) :: (d8, e8Dict w.params v1 v2 v3 v4 ba) :: all) →
      (∀ p ∈ all, p.1 < d8) → d8 < e8 → e8 < ba → ba < dx → dx < x → x < dl → Q (.ref x) { s with heap := h', toks := tk' })
    (hst : starEach [ARG, .Constant (.int mk) 0 p2] (LE L fa cd) = (false, eval ARG (LE L fa cd)) :: starEach [.Constant (.int mk) 0 p2] (LE L fa cd) := by rfl) :
    wpE (model PR w) (LA dp un L fa cd) (eval (.Call (.Name (Str.ofString "_law_laid") p1) [ARG, .Constant (.int mk) 0 p2] [] p3) (LE L fa cd)) Q E s := by
  have d0 : KtsDicts (([] : List Env).filterMap (·.frame)) h₀ := ktsDicts_nil
  refine wpE_Call ?_
  k_steps
  refine callWith_E (P := fun h => (KK w.params).In h) (fun h (hX : (KK w.params).In h) => ?hk) ?_ hst
  case hk =>
    obtain ⟨k, hk, lk⟩ := keeps_K (K := KK w.params) (f := .ref 659) (by k_is) h hX
    exact ⟨k, hk, lk⟩
  rw [hst]
  refine wpE_spliced_cons (wpE_of (wpAny_mono (hA _ _ (fun v s' => _) (by k_asm) (by k_asm) (fun h' tk' t F' N' => ?_)) (fun _ _ x => x) fun _ _ x => x.elim))
  refine wpE_of ?_
  k_steps
  all_goals first | exact Frag.In.keeps X (Fr.keep F') | refine wpE_call ?_
  refine' c_laid (mk := mk) hb hc hc0 hc1 B F' X N' T rfl ?hd ?hu (fun x dx dl od e8 d8 ba v1 v2 v3 v4 h2 tk2 ir F2 N2 lt l1 l2 l3 l4 l5 => ?_)
  (case hd => omega); (case hu => omega)
  exact ret _ _ _ _ _ _ _ _ _ _ _ _ _ ir F2 N2 lt l1 l2 l3 l4 l5
/-! ## plain laws: a record's octets, its kind, the names that a directory tells -/
structure GoodB (b : Array UInt8) (v : Str) : Prop where
  sz : b.size = 11
  hd : ∃ c, b[0]? = some c ∧ c ≠ 0 ∧ c ≠ 229 ∧ c ≠ 5
  nm : nameT b = v
theorem GoodB.ok {b : Array UInt8} {v : Str} (h : GoodB b v) : NameOk b := let ⟨c, h1, _, _, h2⟩ := h.hd; ⟨h.sz, c, h1, h2⟩
theorem good_rec {bs es : List Nat} {p v : Str} (g : Good bs es) (hp : Mine.T p = pad bs es) (hv : Mine.T v = nm bs es) : GoodB (encB p) v := by
  refine ⟨?_, head_pad g hp, nameT_pad g hp hv⟩
  have hA : ∀ c ∈ Mine.T p, c < 128 := by rw [hp]; exact pad_ascii g
  have e0 := encB_list p hA
  have h1 := congrArg List.length e0
  rw [List.length_map, hp, pad_len g] at h1
  rw [← Array.length_toList]; exact h1
theorem oct_good {bs es : List Nat} {a y : Str} (g : Good bs es) (ha : Mine.T a = bs) (hy : Mine.T y = dotE es) : GoodB (encB (octT a y)) (a ++ y) :=
  good_rec g (octT_T g ha hy) (by rw [T_add, ha, hy]; rfl)
theorem ssn_good {bs es : List Nat} {v a b : Str} (g : Good bs es) (hv : Mine.T v = nm bs es) (h : SplitIs v a b) : GoodB (encB (padT a b)) v :=
  good_rec g (padT_T g hv h) hv
theorem no_dot {bs es : List Nat} {v : Str} (g : Good bs es) (hv : Mine.T v = nm bs es) : ([Str.ofString ".", Str.ofString ".."].any fun x => x == v) = false := by
  have h0 : (nm bs es)[0]? ≠ some 46 := by
    have hb := g.b1
    match bs, hb, g with
    | d :: r, _, g =>
      intro e
      exact (good_sign d (g.gb d (.head _))).2.1 (Option.some.inj e)
  rw [← hv] at h0
  rw [List.any_eq_false]
  intro x hx q
  have e := eq_of_beq q
  rw [← e] at h0
  rcases List.mem_cons.mp hx with rfl | hx
  · exact h0 rfl
  rcases List.mem_cons.mp hx with rfl | hx
  · exact h0 rfl
  · cases hx
noncomputable def names (j : Nat) (ents : List Ent) : List Str := (selE j ents).map fun e => nameT e.b
theorem names_app (j : Nat) (ents : List Ent) (e : Ent) : names j (ents ++ [e]) = names j ents ++ names j [e] := by
  unfold names selE
  rw [List.filter_append, List.map_append]
theorem names_one {j : Nat} {e : Ent} (h : e.kind = j) : names j [e] = [nameT e.b] := by
  unfold names selE
  rw [List.filter_cons, if_pos (beq_iff_eq.mpr h), List.filter_nil, List.map_cons, List.map_nil]
theorem names_none {i j : Nat} {e : Ent} (h : e.kind = j) (hne : j ≠ i) : names i [e] = [] := by
  unfold names selE
  rw [List.filter_cons, if_neg (fun q => hne (h.symm.trans (beq_iff_eq.mp q))), List.filter_nil, List.map_nil]
theorem names_in {j : Nat} {ents : List Ent} {e : Ent} (h : e.kind = j) : names j (ents ++ [e]) = names j ents ++ [nameT e.b] := by
  rw [names_app, names_one h]
theorem names_out {i j : Nat} {ents : List Ent} {e : Ent} (h : e.kind = j) (hne : j ≠ i) : names i (ents ++ [e]) = names i ents := by
  rw [names_app, names_none h hne, List.append_nil]
/-- what the directory tells: folders, files, the rest -/
structure Tells (ents : List Ent) (fs gs as : List Str) : Prop where
  f : names 0 ents = fs
  g : names 1 ents = gs
  a : names 2 ents = as
theorem Tells.nil : Tells [] [] [] [] := ⟨rfl, rfl, rfl⟩
theorem Tells.folder {ents : List Ent} {fs gs as : List Str} {e : Ent} {v : Str} (t : Tells ents fs gs as) (h : e.kind = 0) (hv : nameT e.b = v) : Tells (ents ++ [e]) (fs ++ [v]) gs as :=
  ⟨by rw [names_in h, t.f, hv], by rw [names_out h (by decide), t.g], by rw [names_out h (by decide), t.a]⟩
theorem Tells.file {ents : List Ent} {fs gs as : List Str} {e : Ent} {v : Str} (t : Tells ents fs gs as) (h : e.kind = 1) (hv : nameT e.b = v) : Tells (ents ++ [e]) fs (gs ++ [v]) as :=
  ⟨by rw [names_out h (by decide), t.f], by rw [names_in h, t.g, hv], by rw [names_out h (by decide), t.a]⟩
theorem Tells.other {ents : List Ent} {fs gs as : List Str} {e : Ent} {v : Str} (t : Tells ents fs gs as) (h : e.kind = 2) (hv : nameT e.b = v) : Tells (ents ++ [e]) fs gs (as ++ [v]) :=
  ⟨by rw [names_out h (by decide), t.f], by rw [names_out h (by decide), t.g], by rw [names_in h, t.a, hv]⟩
theorem Tells.shown {ents : List Ent} {fs gs as : List Str} (t : Tells ents fs gs as) : ((shown ents).map fun e => nameT e.b) = fs ++ gs := by
  unfold Mine.shown
  rw [List.map_append, ← t.f, ← t.g]
  rfl
theorem kind_dir {bs es : List Nat} {e : Ent} {v : Str} (g : Good bs es) (hv : Mine.T v = nm bs es) (hn : nameT e.b = v) (hm : e.mark = 16) : e.kind = 0 := by
  unfold Ent.kind
  rw [hn, if_neg (by rintro (q | q); rw [no_dot g hv] at q; cases q; rw [hm] at q; cases q), if_pos hm]
theorem kind_file {bs es : List Nat} {e : Ent} {v : Str} (g : Good bs es) (hv : Mine.T v = nm bs es) (hn : nameT e.b = v) (hm : e.mark = 32) : e.kind = 1 := by
  unfold Ent.kind
  rw [hn, if_neg (by rintro (q | q); rw [no_dot g hv] at q; cases q; rw [hm] at q; cases q), if_neg (by rw [hm]; decide)]
theorem kind_label {e : Ent} (hm : e.mark = 8) : e.kind = 2 := if_pos (.inr hm)
theorem kind_dot {e : Ent} (hn : nameT e.b = Str.ofString ".") : e.kind = 2 := by
  refine if_pos (.inl ?_)
  rw [hn]
  rfl
theorem asd_len (n : Nat) (v : Str) (l : List Str) (h : l.length ≤ n) : (l ++ [v]).length ≤ n + 1 := by rw [List.length_append]; exact Nat.succ_le_succ h
/-! ## parent.add_subdirectory(..) in the law's frame -/
theorem ba_plain {b : Array UInt8} : Plain (baObj b 0) := ⟨(fun v e => by cases e), (fun e => by cases e)⟩
theorem inst_plain {C d : Addr} : Plain (instObj C d) := ⟨(fun v e => by cases e), (fun e => by cases e)⟩
theorem list_plain {vs : Array Value} {n : Nat} : Plain (W.listOf vs n) := ⟨(fun v e => by cases e), (fun e => by cases e)⟩
theorem dict_plain {P : Params} {v1 v2 v3 v4 : Tok} {S : Addr} : Plain (e8Dict P v1 v2 v3 v4 S) := ⟨(fun v e => by cases e), (fun e => by cases e)⟩
/-- new objects: above all that lay there, neither cells nor tables -/
def FreshL (all nw : List (Addr × Obj)) : Prop := ∀ q ∈ nw, (∀ p ∈ all, p.1 < q.1) ∧ Plain q.2
/-- two parts of the ledger that share no address -/
def Apart (ext rest : List (Addr × Obj)) : Prop := ∀ p ∈ ext, ∀ q ∈ rest, q.1 ≠ p.1
structure DirSt (P : Params) (px pdx pl : Addr) (od : Obj) (ents : List Ent) (ext rest : List (Addr × Obj)) (fs gs as : List Str) : Prop where
  ok : DirOk P px pdx pl od ents
  off : OffD px pdx pl rest
  ofx : OffD px pdx pl ext
  ap : Apart ext rest
  es : ∀ e ∈ ents, EntOk P rest e
  tl : Tells ents fs gs as
theorem EntOk.mono {P : Params} {news news' : List (Addr × Obj)} {e : Ent} (h : EntOk P news e) (hs : ∀ p ∈ news, p ∈ news') : EntOk P news' e := ⟨h.1.mono hs, h.2⟩
theorem FreshL.off {px pdx pl : Addr} {od : Obj} {ents : List Ent} {k : Nat} {rest nw : List (Addr × Obj)} (fr : FreshL (dirL px pdx pl od ents k ++ rest) nw) : OffD px pdx pl nw := fun q hq => by
  have h1 := (fr q hq).1
  exact ⟨Ne.symm (Nat.ne_of_lt (h1 _ (List.mem_append_left _ (.head _)))), Ne.symm (Nat.ne_of_lt (h1 _ (List.mem_append_left _ (.tail _ (.head _))))), Ne.symm (Nat.ne_of_lt (h1 _ (List.mem_append_left _ (.tail _ (.tail _ (.head _))))))⟩
theorem OffD.app {px pdx pl : Addr} {a b : List (Addr × Obj)} (h : OffD px pdx pl a) (h' : OffD px pdx pl b) : OffD px pdx pl (a ++ b) := fun q hq => (List.mem_append.mp hq).elim (h q) (h' q)
/-- the state after a record has entered -/
theorem DirSt.add {P : Params} {px pdx pl ex : Addr} {od od' : Obj} {ents : List Ent} {k : Nat} {ext rest nw : List (Addr × Obj)} {fs gs as fs' gs' as' : List Str} {b : Array UInt8} {mk : Int} (d : DirSt P px pdx pl od ents ext rest fs gs as) (ok : DirOk P px pdx pl od' (ents ++ [⟨ex, b, mk⟩])) (hE : EntIn P (nw ++ rest) ex b mk) (hb : NameOk b) (hm : mk = 8 ∨ mk = 16 ∨ mk = 32)
    (fr : FreshL (dirL px pdx pl od ents k ++ (ext ++ rest)) nw) (ht : Tells (ents ++ [⟨ex, b, mk⟩]) fs' gs' as') : DirSt P px pdx pl od' (ents ++ [⟨ex, b, mk⟩]) ext (nw ++ rest) fs' gs' as' :=
  ⟨ok, (FreshL.off fr).app d.off, d.ofx, fun p hp q hq => by
    revert q hq
    exact all_a (fun q hq => Ne.symm (Nat.ne_of_lt ((fr q hq).1 p (List.mem_append_right _ (List.mem_append_left _ hp))))) (fun q hq => d.ap p hp q hq), fun e he => by
    revert e he
    refine all_a (fun e he => (d.es e he).mono fun p hp => List.mem_append_right _ hp) (fun e he => ?_)
    · rw [List.mem_singleton.mp he]; exact ⟨hE, hb, hm⟩, ht⟩
/-- the statement: its receiver found, its argument a record -/
theorem st_addE {QF : Flow → Shared → Prop} {plS : Sem Bool} {ARG : PySem.Expr} {p1 p2 p3 p4 : Pos} {fa cd px pdx pl : Addr} {od : Obj} {ents : List Ent} {k : Nat} {mk : Int} {b : Array UInt8} {ext rest : List (Addr × Obj)} (B : Below A₀ h₀ [] h₀) (F : Fr h₀ L s.heap m) (X : (KK w.params).In h₀) (N : News h₀ L s.heap (dirL px pdx pl od ents k ++ (ext ++ rest))) (T : Top VW LO mean mg mb h₀) (hd : dp + 100 < recursionLimit) (hu : un + 1000 < cLine)
    (D : DirOk w.params px pdx pl od ents) (off : OffD px pdx pl (ext ++ rest)) (hz : ents.length + 1 ≤ 40) (l_parent : m (Str.ofString "parent") = some (.ref px))
    (hA : ∀ h1 tk1 (Q' : Value → Shared → Prop), Fr h₀ L h1 m → News h₀ L h1 (dirL px pdx pl od ents k ++ (ext ++ rest)) → (∀ ex edx dl eod e8 nw h' tk', IsRec w.params eod e8 dl mk .none → Fr h₀ L h' m → News h₀ L h' ((dl, W.listOf #[] 0) :: (ex, instObj 533 edx) :: (edx, eod) :: nw ++ (dirL px pdx pl od ents k ++ (ext ++ rest))) → FreshL (dirL px pdx pl od ents k ++ (ext ++ rest)) nw → (∀ p ∈ nw ++ (dirL px pdx pl od ents k ++ (ext ++ rest)), p.1 < edx) → @LT.lt Nat _ edx ex → @LT.lt Nat _ ex dl →
        (∃ d8 ba v1 v2 v3 v4, (e8, instObj 243 d8) ∈ nw ++ rest ∧ (d8, e8Dict w.params v1 v2 v3 v4 ba) ∈ nw ++ rest ∧ (ba, baObj b 0) ∈ nw ++ rest) → Q' (.ref ex) { s with heap := h', toks := tk' }) → wpE (model PR w) (LA dp un L fa cd) (eval ARG (LE L fa cd)) Q' (fun _ _ => False) { s with heap := h1, toks := tk1 })
    (ret : ∀ ex od' nw h' tk', DirOk w.params px pdx pl od' (ents ++ [⟨ex, b, mk⟩]) → EntIn w.params (nw ++ rest) ex b mk → FreshL (dirL px pdx pl od ents k ++ (ext ++ rest)) nw → Fr h₀ L h' m → News h₀ L h' (dirL px pdx pl od' (ents ++ [⟨ex, b, mk⟩]) (k + 1) ++ (ext ++ (nw ++ rest))) → QF .next { s with heap := h', toks := tk' })
    (hst : starEach [ARG] (LE L fa cd) = (false, eval ARG (LE L fa cd)) :: starEach [] (LE L fa cd) := by rfl)
    (he : eval (.Call (.Attribute (.Name (Str.ofString "parent") p1) (Str.ofString "add_subdirectory") p2) [ARG] [] p3) (LE L fa cd) = (do
      let ov ← eval (.Name (Str.ofString "parent") p1) (LE L fa cd)
      standAt p2.atName
      let (f, first) ← holding [ov] (getMethod ov (Str.ofString "add_subdirectory") plS)
      callWith p3 f first (backTo p3 (starEach [ARG] (LE L fa cd))) (backToKw p3 (keywordEach [] (LE L fa cd)))) := by rfl) :
    wpC (model PR w) (LA dp un L fa cd) (exec (.Expr (.Call (.Attribute (.Name (Str.ofString "parent") p1) (Str.ofString "add_subdirectory") p2) [ARG] [] p3) p4) (LE L fa cd)) QF s := by
  have d0 : KtsDicts (([] : List Env).filterMap (·.frame)) h₀ := ktsDicts_nil
  obtain ⟨n8, par, ho⟩ := D.rc
  refine ho.elim ?_
  intro u1 u2 u3 u4 u5 u6 u7 u8 u9 u10 u11 u12 u13 u14 u15 u16 u17 u18 r1 r2 r3 r4 r5 r6 r7 r8 r9 r10 r11 r12 e
  unfold dirL at N
  rw [e] at N
  dsimp only [List.cons_append, List.nil_append] at N
  have e0 : fo [(Str.ofString "parent", Value.ref px)] m = m := fo_cons (by assumption) fo_nil
  replace F := e0.symm ▸ F
  refine wpC_ofE (wpE_Expr (wpE_method ?_ he) rfl rfl)
  k_steps
  rename Fr h₀ L _ _ => F1
  rename News h₀ L _ _ => N1
  rw [e0] at F1
  refine callWith_E (P := fun h => (KK w.params).In h) (fun h (hX : (KK w.params).In h) => ?hk) ?_ hst
  case hk =>
    obtain ⟨k, hk, lk⟩ := keeps_K (K := KK w.params) (f := .ref 495) (by k_is) h hX
    exact ⟨k, hk, lk⟩
  rw [hst]
  refine wpE_spliced_cons (hA _ _ (fun v s' => _) F1 ?_ (fun ex edx dl eod e8 nw h' tk' ir F' N' fr lt l3 l4 he => ?_))
  · unfold dirL
    rw [e]
    exact N1
  obtain ⟨d8, ba, v1, v2, v3, v4, m1, m2, m3⟩ := he
  refine wpE_spliced_nil ⟨Frag.In.keeps X (Fr.keep F'), wpE_of ?_⟩
  have off' : OffD px pdx pl (nw ++ (ext ++ rest)) := fun q hq => by
    revert q hq
    refine all_a (fun q hq => ?_) off
    · have h1 := (fr q hq).1
      exact ⟨Ne.symm (Nat.ne_of_lt (h1 _ (List.mem_append_left _ (.head _)))), Ne.symm (Nat.ne_of_lt (h1 _ (List.mem_append_left _ (.tail _ (.head _))))), Ne.symm (Nat.ne_of_lt (h1 _ (List.mem_append_left _ (.tail _ (.tail _ (.head _))))))⟩
  have sw : ∀ p, p ∈ dirL px pdx pl od ents k ++ (nw ++ (ext ++ rest)) → p ∈ nw ++ (dirL px pdx pl od ents k ++ (ext ++ rest)) := fun p hp => by
    revert p hp
    exact all_a (fun p hp => List.mem_append_right _ (List.mem_append_left _ hp)) (all_a (fun p hp => List.mem_append_left _ hp) (fun p hp => List.mem_append_right _ (List.mem_append_right _ hp)))
  refine add_core (rest := nw ++ (ext ++ rest)) (od := od) (eod := eod) (e8 := e8) (ents := ents) (k := k) (mk := mk) (b := b) B F' X (fun p hp => ?_) T rfl (by omega) (by omega) D off' (fun p hp => lt p (sw p hp)) l3 l4 ir hz ?_
  · revert p hp
    exact all_c (N' _ (.head _)) (all_c (N' _ (.tail _ (.head _))) (all_c (N' _ (.tail _ (.tail _ (.head _)))) (fun p hp => N' _ (.tail _ (.tail _ (.tail _ (sw p hp)))))))
  intro eod' od' h2 tk2 ir' D' F2 N2 off2
  have lt9 : ∀ p ∈ dirL px pdx pl od ents k ++ (ext ++ rest), p.1 < edx := fun p hp => lt p (List.mem_append_right _ hp)
  have l5 : @LT.lt Nat _ edx dl := Nat.lt_trans l3 l4
  refine ret ex od' ((dl, W.listOf #[] 0) :: (ex, instObj 533 edx) :: (edx, eod') :: nw) h2 tk2 D' ?_ ?_ F2 (fun p hp => ?_)
  · exact .mk ir' (.tail _ (.head _)) (.tail _ (.tail _ (.head _))) (.tail _ (.tail _ (.tail _ m1))) (.tail _ (.tail _ (.tail _ m2))) (.tail _ (.tail _ (.tail _ m3)))
  · intro q hq
    revert q hq
    exact all_c (⟨fun p hp => Nat.lt_trans (lt9 p hp) l5, list_plain⟩) (all_c (⟨fun p hp => Nat.lt_trans (lt9 p hp) l3, inst_plain⟩) (all_c (⟨lt9, ir'.plain⟩) fr))
  · revert p hp
    exact all_a (fun p hp => N2 p (List.mem_append_left _ hp)) (all_a (fun p hp => N2 p (List.mem_append_right _ (.tail _ (.tail _ (.tail _ (List.mem_append_right _ (List.mem_append_left _ hp))))))) (all_a (all_c (N2 _ (List.mem_append_right _ (.head _))) (all_c (N2 _ (List.mem_append_right _ (.tail _ (.head _)))) (all_c (N2 _ (List.mem_append_right _ (.tail _ (.tail _ (.head _))))) (fun p hp => N2 p (List.mem_append_right _ (.tail _ (.tail _ (.tail _ (List.mem_append_left _ hp))))))))) (fun p hp => N2 p (List.mem_append_right _ (.tail _ (.tail _ (.tail _ (List.mem_append_right _ (List.mem_append_right _ hp)))))))))
/-- .. a record laid by its octets -/
theorem st_addL {QF : Flow → Shared → Prop} {plS : Sem Bool} {ARG : PySem.Expr} {p1 p2 p3 p4 q1 q2 q3 : Pos} {fa cd px pdx pl : Addr} {od : Obj} {ents : List Ent} {k : Nat} {mk : Int} {b : Array UInt8} {c : UInt8} {ext rest : List (Addr × Obj)} (hb : b.size = 11) (hc : b[0]? = some c) (hc0 : c ≠ 0) (hc1 : c ≠ 229) (B : Below A₀ h₀ [] h₀) (F : Fr h₀ L s.heap m) (X : (KK w.params).In h₀) (N : News h₀ L s.heap (dirL px pdx pl od ents k ++ (ext ++ rest))) (T : Top VW LO mean mg mb h₀) (hd : dp + 100 < recursionLimit) (hu : un + 1000 < cLine)
    (D : DirOk w.params px pdx pl od ents) (off : OffD px pdx pl (ext ++ rest)) (hz : ents.length + 1 ≤ 40) (l_parent : m (Str.ofString "parent") = some (.ref px))
    (hA : ∀ h1 tk1 (Q' : Value → Shared → Prop), Fr h₀ L h1 m → News h₀ L h1 (dirL px pdx pl od ents k ++ (ext ++ rest)) → (∀ h' tk' t, Fr h₀ L h' m → News h₀ L h' (dirL px pdx pl od ents k ++ (ext ++ rest)) → Q' (.bytes b t) { s with heap := h', toks := tk' }) → wpAny (model PR w) (LA dp un L fa cd) (eval ARG (LE L fa cd)) Q' (fun _ _ => False) { s with heap := h1, toks := tk1 })
    (ret : ∀ ex od' nw h' tk', DirOk w.params px pdx pl od' (ents ++ [⟨ex, b, mk⟩]) → EntIn w.params (nw ++ rest) ex b mk → FreshL (dirL px pdx pl od ents k ++ (ext ++ rest)) nw → Fr h₀ L h' m → News h₀ L h' (dirL px pdx pl od' (ents ++ [⟨ex, b, mk⟩]) (k + 1) ++ (ext ++ (nw ++ rest))) → QF .next { s with heap := h', toks := tk' })
    (hst : starEach [ARG, .Constant (.int mk) 0 q2] (LE L fa cd) = (false, eval ARG (LE L fa cd)) :: starEach [.Constant (.int mk) 0 q2] (LE L fa cd) := by rfl)
    (he : eval (.Call (.Attribute (.Name (Str.ofString "parent") p1) (Str.ofString "add_subdirectory") p2) [.Call (.Name (Str.ofString "_law_laid") q1) [ARG, .Constant (.int mk) 0 q2] [] q3] [] p3) (LE L fa cd) = (do
      let ov ← eval (.Name (Str.ofString "parent") p1) (LE L fa cd)
      standAt p2.atName
      let (f, first) ← holding [ov] (getMethod ov (Str.ofString "add_subdirectory") plS)
      callWith p3 f first (backTo p3 (starEach [.Call (.Name (Str.ofString "_law_laid") q1) [ARG, .Constant (.int mk) 0 q2] [] q3] (LE L fa cd))) (backToKw p3 (keywordEach [] (LE L fa cd)))) := by rfl) :
    wpC (model PR w) (LA dp un L fa cd) (exec (.Expr (.Call (.Attribute (.Name (Str.ofString "parent") p1) (Str.ofString "add_subdirectory") p2) [.Call (.Name (Str.ofString "_law_laid") q1) [ARG, .Constant (.int mk) 0 q2] [] q3] [] p3) p4) (LE L fa cd)) QF s := by
  refine st_addE (mk := mk) (b := b) B F X N T hd hu D off hz l_parent (fun h1 tk1 Q' F1 N1 hQ => ?_) ret rfl he
  refine ev_laid (s := { s with heap := h1, toks := tk1 }) (mk := mk) hb hc hc0 hc1 B F1 X N1 T hd hu (fun h2 tk2 Q2 F2 N2 hQ2 => hA h2 tk2 Q2 F2 N2 hQ2) ?_ hst
  intro x dx dl eod e8 d8 ba v1 v2 v3 v4 h2 tk2 ir F2 N2 lt l1 l2 l3 l4 l5
  have b1 : ∀ p ∈ dirL px pdx pl od ents k ++ (ext ++ rest), @LT.lt Nat _ p.1 e8 := fun p hp => Nat.lt_trans (lt p hp) l1
  have b2 : ∀ p ∈ dirL px pdx pl od ents k ++ (ext ++ rest), @LT.lt Nat _ p.1 ba := fun p hp => Nat.lt_trans (b1 p hp) l2
  have b3 : ∀ p ∈ dirL px pdx pl od ents k ++ (ext ++ rest), @LT.lt Nat _ p.1 dx := fun p hp => Nat.lt_trans (b2 p hp) l3
  refine hQ x dx dl eod e8 [(ba, baObj b 0), (e8, instObj 243 d8), (d8, e8Dict w.params v1 v2 v3 v4 ba)] h2 tk2 ir F2 N2 ?_ ?_ l4 l5 ⟨d8, ba, v1, v2, v3, v4, .tail _ (.head _), .tail _ (.tail _ (.head _)), .head _⟩
  · intro q hq
    revert q hq
    exact all_c (⟨b2, ba_plain⟩) (all_c (⟨b1, inst_plain⟩) (all_c (⟨lt, dict_plain⟩) all_n))
  · intro p hp
    revert p hp
    exact all_c l3 (all_c (Nat.lt_trans l2 l3) (all_c (Nat.lt_trans (Nat.lt_trans l1 l2) l3) b3))
/-- .. the directory's state after it -/
theorem st_addS {QF : Flow → Shared → Prop} {plS : Sem Bool} {ARG : PySem.Expr} {p1 p2 p3 p4 q1 q2 q3 : Pos} {fa cd px pdx pl : Addr} {od : Obj} {ents : List Ent} {k : Nat} {mk : Int} {b : Array UInt8} {v : Str} {ext rest : List (Addr × Obj)} {fs gs as fs' gs' as' : List Str} (gb : GoodB b v) (hm : mk = 8 ∨ mk = 16 ∨ mk = 32) (B : Below A₀ h₀ [] h₀) (F : Fr h₀ L s.heap m) (X : (KK w.params).In h₀) (N : News h₀ L s.heap (dirL px pdx pl od ents k ++ (ext ++ rest))) (T : Top VW LO mean mg mb h₀) (hd : dp + 100 < recursionLimit) (hu : un + 1000 < cLine)
    (d : DirSt w.params px pdx pl od ents ext rest fs gs as) (hz : ents.length + 1 ≤ 40) (l_parent : m (Str.ofString "parent") = some (.ref px)) (ht : ∀ ex, Tells (ents ++ [⟨ex, b, mk⟩]) fs' gs' as')
    (hA : ∀ h1 tk1 (Q' : Value → Shared → Prop), Fr h₀ L h1 m → News h₀ L h1 (dirL px pdx pl od ents k ++ (ext ++ rest)) → (∀ h' tk' t, Fr h₀ L h' m → News h₀ L h' (dirL px pdx pl od ents k ++ (ext ++ rest)) → Q' (.bytes b t) { s with heap := h', toks := tk' }) → wpAny (model PR w) (LA dp un L fa cd) (eval ARG (LE L fa cd)) Q' (fun _ _ => False) { s with heap := h1, toks := tk1 })
    (ret : ∀ ex od' nw h' tk', DirSt w.params px pdx pl od' (ents ++ [⟨ex, b, mk⟩]) ext (nw ++ rest) fs' gs' as' → FreshL (dirL px pdx pl od ents k ++ (ext ++ rest)) nw → Fr h₀ L h' m → News h₀ L h' (dirL px pdx pl od' (ents ++ [⟨ex, b, mk⟩]) (k + 1) ++ (ext ++ (nw ++ rest))) → QF .next { s with heap := h', toks := tk' })
    (hst : starEach [ARG, .Constant (.int mk) 0 q2] (LE L fa cd) = (false, eval ARG (LE L fa cd)) :: starEach [.Constant (.int mk) 0 q2] (LE L fa cd) := by rfl)
    (he : eval (.Call (.Attribute (.Name (Str.ofString "parent") p1) (Str.ofString "add_subdirectory") p2) [.Call (.Name (Str.ofString "_law_laid") q1) [ARG, .Constant (.int mk) 0 q2] [] q3] [] p3) (LE L fa cd) = (do
      let ov ← eval (.Name (Str.ofString "parent") p1) (LE L fa cd)
      standAt p2.atName
      let (f, first) ← holding [ov] (getMethod ov (Str.ofString "add_subdirectory") plS)
      callWith p3 f first (backTo p3 (starEach [.Call (.Name (Str.ofString "_law_laid") q1) [ARG, .Constant (.int mk) 0 q2] [] q3] (LE L fa cd))) (backToKw p3 (keywordEach [] (LE L fa cd)))) := by rfl) :
    wpC (model PR w) (LA dp un L fa cd) (exec (.Expr (.Call (.Attribute (.Name (Str.ofString "parent") p1) (Str.ofString "add_subdirectory") p2) [.Call (.Name (Str.ofString "_law_laid") q1) [ARG, .Constant (.int mk) 0 q2] [] q3] [] p3) p4) (LE L fa cd)) QF s := by
  obtain ⟨c, c1, c2, c3, c4⟩ := gb.hd
  exact st_addL gb.sz c1 c2 c3 B F X N T hd hu d.ok (d.ofx.app d.off) hz l_parent hA (fun ex od' nw h' tk' ok hE fr F' N' => ret ex od' nw h' tk' (d.add ok hE gb.ok hm fr (ht ex)) fr F' N') hst he
def NotCell (o : Obj) : Prop := ∀ v, o.data ≠ .cell v
theorem IsTup.nc {o : Obj} (h : IsTup o) : NotCell o := fun v e => by obtain ⟨_, its, n, hd⟩ := h; rw [hd] at e; cases e
theorem IsTup.plain {o : Obj} (h : IsTup o) : Plain o := ⟨h.nc, fun e => by rw [h.1] at e; cases e⟩
/-- a pair that lies ahead: a good name's two parts -/
def AheadV (news : List (Addr × Obj)) (v : Value) : Prop := ∃ t a y t1 t2 bs es, v = .ref t ∧ (t, ({ cls := .type "tuple", data := .seq #[.str a t1, .str y t2] 0 } : Obj)) ∈ news ∧ Good bs es ∧ Mine.T a = bs ∧ Mine.T y = dotE es
theorem AheadV.mono {news news' : List (Addr × Obj)} {v : Value} (h : AheadV news v) (hs : ∀ p ∈ news, p ∈ news') : AheadV news' v :=
  ex7 h fun t a y t1 t2 bs es h => xi7 t a y t1 t2 bs es ⟨h.1, hs _ h.2.1, h.2.2⟩
def AheadJ (base : List (Addr × Obj)) (i : Nat) (ys : List Value) (nw : List (Addr × Obj)) : Prop := ys.length = i ∧ (∀ v ∈ ys, AheadV nw v) ∧ (∀ p ∈ base, p ∈ nw) ∧ (∀ p ∈ nw, p ∈ base ∨ IsTup p.2)
theorem AheadJ.zero (base : List (Addr × Obj)) : AheadJ base 0 [] base := ⟨rfl, (fun _ h => nomatch h), (fun _ h => h), fun _ h => .inl h⟩
theorem off3_cons {I C D T : Addr} {o : Obj} {l : List (Addr × Obj)} (h : LCg.Off3 I C D l) (h1 : @LT.lt Nat _ I T) (h2 : @LT.lt Nat _ C T) (h3 : @LT.lt Nat _ D T) : LCg.Off3 I C D ((T, o) :: l) := ⟨⟨Ne.symm (Nat.ne_of_lt h1), Ne.symm (Nat.ne_of_lt h2), Ne.symm (Nat.ne_of_lt h3)⟩, h⟩
theorem dg_one : ∀ j, j ≤ 9 → (dgS j).length = 1 := by
  have h : ∀ j : Fin 10, (dgS j.val).length = 1 := by decide +kernel
  exact fun j hj => h ⟨j, by omega⟩
theorem good_pair {bs es : List Nat} {j : Nat} (g : Good bs es) (hj : j ≤ 9) : Good (bs.take 6 ++ 126 :: dg j) es := by
  have h1 : (dg j).length = 1 := by unfold dg; rw [T_len]; exact dg_one j hj
  refine ⟨?_, ?_, g.e3, fun c hc => ?_, g.ge⟩
  · rw [List.length_append, List.length_cons]; omega
  · rw [List.length_append, List.length_cons, List.length_take]; omega
  · rcases List.mem_append.mp hc with h | h
    · exact g.gb c (List.mem_of_mem_take h)
    rcases List.mem_cons.mp h with rfl | h
    · decide
    · exact (dg_good j (by omega) c h).1
theorem T_pair {b : Str} {bs : List Nat} {i : Nat} (hb : Mine.T b = bs) : Mine.T (Txt.slice b none (some 6) ++ Str.ofString "~" ++ Str.ofString (toString (1 + (i : Int)))) = bs.take 6 ++ 126 :: dg (i + 1) := by
  have e : (1 + (i : Int)) = ((i + 1 : Nat) : Int) := by omega
  rw [e, T_add, T_add, show (6 : Int) = ((6 : Nat) : Int) from rfl, T_slN, hb, List.append_assoc]
  rfl
theorem AheadJ.step {base nw : List (Addr × Obj)} {i : Nat} {ys : List Value} {T : Addr} {b y : Str} {t1 t2 : Tok} {bs es : List Nat} (h : AheadJ base i ys nw) (g : Good bs es) (hb : Mine.T b = bs) (hy : Mine.T y = dotE es) (hi : i < 9) : AheadJ base (i + 1) (ys ++ [.ref T]) ((T, ({ cls := .type "tuple", data := .seq #[.str (Txt.slice b none (some 6) ++ Str.ofString "~" ++ Str.ofString (toString (1 + (i : Int)))) t1, .str y t2] 0 } : Obj)) :: nw) := by
  obtain ⟨h1, h2, h3, h4⟩ := h
  refine ⟨by rw [List.length_append, h1]; rfl, fun v hv => ?_, fun p hp => .tail _ (h3 p hp), fun p hp => ?_⟩
  · revert v hv
    refine all_a (fun v hv => (h2 v hv).mono fun p hp => .tail _ hp) (fun v hv => ?_)
    · rw [List.mem_singleton.mp hv]
      exact ⟨T, _, _, _, _, _, _, rfl, .head _, good_pair g (by omega), T_pair hb, hy⟩
  · revert p hp
    exact all_c (.inr ⟨rfl, _, _, rfl⟩) h4
theorem g7_ahead {QF : Flow → Shared → Prop} {fa cd : Addr} {b y : Str} {tb ty : Tok} {cb ct co : Obj} {v₀ : Option Value} {bs es : List Nat} (hcb : (L + 2, cb) ∈ news) (hdb : cb.data = .cell (some (.str b tb))) (hct : (L + 3, ct) ∈ news) (hdt : ct.data = .cell (some (.str y ty))) (hco : co.data = .cell v₀) (hoff : ∀ p ∈ news, p.1 ≠ L + 4) (g : Hd (Good bs es)) (hb : Hd (Mine.T b = bs)) (hy : Hd (Mine.T y = dotE es)) (hbl : b.length ≤ 8) (B : Below A₀ h₀ [] h₀) (F : Fr h₀ L s.heap m) (X : (KK w.params).In h₀) (N : News h₀ L s.heap ((L + 4, co) :: news)) (T : Top VW LO mean mg mb h₀) (hd : dp + 100 < recursionLimit) (hu : un + 1000 < cLine)
    (ret : ∀ m' h' tk' al (vs : List Value) k co2 nx, co2.data = .cell (some (.ref al)) → vs.length = 10 → (∀ v ∈ vs, AheadV nx v) → (al, W.listOf vs.toArray k) ∈ nx → (∀ p ∈ news, p ∈ nx) → (∀ p ∈ nx, p ∈ news ∨ Plain p.2) → Keep [] m m' → Fr h₀ L h' m' → News h₀ L h' ((L + 4, co2) :: nx) → QF .next { s with heap := h', toks := tk' }) :
    wpAny (model PR w) (LA dp un L fa cd) (exec a7 (LE L fa cd)) QF E s := by
  have sm24 : SMk 24 := trivial
  have d0 : KtsDicts (([] : List Env).filterMap (·.frame)) h₀ := ktsDicts_nil
  have k0 : Keep [] m m := Keep.of_eq rfl
  dsimp only [a7, lit]
  (k_with "eval ListComp" => (first | ((have q9 : SMk 24 := (by with_reducible assumption)); clear q9; (refine Stop.at ?_)) | fail))
  k_steps
  unfold Stop
  rename_i T0 h1 l1 A1 h2 F2 N2 l2
  k_here
  refine' LCg.ListComp_U (F₀ := by k_asm) ?z1 ?z2 ?z3 ?z4 ?z5 ?z6
  (case z2 => decide)
  (case z3 => rfl)
  (case z4 => decide)
  (case z5 => rfl)
  (case z1 => with_unfolding_all rfl)
  (k_with "CompSrc" => (first | ((have q9 : SMk 24 := (by with_reducible assumption)); clear q9; (refine Stop.at ?_)) | fail))
  k_steps
  unfold Stop
  k_here
  refine' LCg.CompSrc.range (n := 9) rfl (by k_asm) (by k_asm) (by with_reducible assumption) (by rfl) (by rfl) (by decide) ?_
  intro g9
  refine rest_grow (n := 9) AheadJ (AheadJ.zero _) ?t9 ?f9
  (case' t9 => intro i9 v9 I9 oI9 C9 oC9 D9 m9 ys9 nw9 h9 tk9 E9 hi9 hv9 hJ9 hC9 hm9 F9 N9 off9 ne9; (obtain ⟨t9, rfl⟩ := hv9); (have b9 := hJ9.2.2.1 _ (.tail _ (.tail _ (.tail _ hcb)))); (have c9 := hJ9.2.2.1 _ (.tail _ (.tail _ (.tail _ hct)))))
  (case' f9 => intro ys8 nw8 hJ8; (unfold LCg.FinE); intro D8 h8 tk8 F8 N8 off8)
  (k_with "CompEnd" => (first | ((have q9 : SMk 24 := (by with_reducible assumption)); clear q9; (refine Stop.at ?_)) | fail))
  (k_with "binaryOp Add ref ref" => (first | ((have q9 : SMk 24 := (by with_reducible assumption)); clear q9; (refine Stop.at ?_)) | fail))
  k_steps
  case t9 =>
    unfold Stop
    rename Fr h₀ L _ _ => F7
    rename News h₀ L _ _ => N7
    rename _ ∧ _ ∧ _ ∧ AllLt _ _ => l7
    refine LCg.CompEnd.intro F7 N7 ((_, { cls := .type "tuple", data := .seq #[.str (Txt.slice b none (some 6) ++ Str.ofString "~" ++ Str.ofString (toString (1 + (i9 : Int)))) ?t1, .str y ?t2] 0 }) :: nw9) ?sb (off3_cons off9 l7.1 l7.2.1 l7.2.2.1) trivial (hJ9.step (t1 := ?t1) (t2 := ?t2) g.out hb.out hy.out hi9)
    case sb =>
      intro p hp
      revert p hp
      exact all_c (.tail _ (.head _)) (all_c (.tail _ (.tail _ (.head _))) (all_c (.tail _ (.tail _ (.tail _ (.head _)))) (all_c (by exact .head _) (fun p hp => .tail _ (.tail _ (.tail _ (.tail _ hp)))))))
  case f9 =>
    unfold Stop
    obtain ⟨j1, j2, j3, j4⟩ := hJ8
    have ml := j3 _ (.head _)
    have mt := j3 _ (.tail _ (.head _))
    have mc := j3 _ (.tail _ (.tail _ (.head _)))
    refine kmk_add_lit (zs := Value.ref _ :: ys8) F8 N8 (list_in (vs := [Value.ref _]) N8 (.tail _ ml)) (list_in N8 (.head _)) rfl (fun D7 h7 F7 N7 l7 => ?_) (by rw [PySem.sizeLine_eq]; show 1 + ys8.length ≤ _; rw [j1]; decide)
    refine' storeC (rest := (D7, W.listOf (Value.ref T0 :: ys8).toArray 0) :: nw8.filter fun p => p.1 != L + 4) F7 N7 rfl (.tail _ (.tail _ mc)) hco ?hr ?k7 rfl rfl
    case hr =>
      intro p hp
      revert p hp
      refine all_c (⟨.head _, Ne.symm (Nat.ne_of_lt (l7 _ (.tail _ mc)))⟩) (fun p hp => ?_)
      · obtain ⟨q1, q2⟩ := List.mem_filter.mp hp
        exact ⟨.tail _ (.tail _ q1), fun e => by rw [e] at q2; simp at q2⟩
    intro h6 o6 F6 N6 d6
    have keep : ∀ p ∈ nw8, p.1 ≠ L + 4 → p ∈ nw8.filter fun p => p.1 != L + 4 := fun p hp hne => List.mem_filter.mpr ⟨hp, bne_iff_ne.mpr hne⟩
    have tup : ∀ {t : Addr} {o : Obj}, (t, o) ∈ nw8 → IsTup o → t ≠ L + 4 := fun {t o} ht hi => by
      refine News.ne N8 (.tail _ ht) (.tail _ mc) fun e => ?_
      rw [e] at hi
      exact hi.nc _ hco
    refine ret m h6 _ D7 _ 0 o6 _ d6 (by show _ + 1 = 10; rw [j1]) (fun v hv => ?_) (.head _) (fun p hp => .tail _ (keep p (j3 _ (.tail _ (.tail _ (.tail _ hp)))) (hoff p hp))) (fun p hp => ?_) k0 F6 N6
    · revert v hv
      refine all_c (⟨_, b, y, tb, ty, bs, es, rfl, .tail _ (keep _ mt (tup mt ⟨rfl, _, _, rfl⟩)), g.out, hb.out, hy.out⟩) (fun v hv => ?_)
      · obtain ⟨t, a, y', t1, t2, bs', es', e0, e1, e2⟩ := j2 v hv
        exact ⟨t, a, y', t1, t2, bs', es', e0, .tail _ (keep _ e1 (tup e1 ⟨rfl, _, _, rfl⟩)), e2⟩
    · rcases List.mem_cons.mp hp with rfl | hp
      · exact .inr list_plain
      obtain ⟨q1, q2⟩ := List.mem_filter.mp hp
      rcases j4 p q1 with q3 | q3
      · rcases List.mem_cons.mp q3 with rfl | q3
        · exact .inr list_plain
        rcases List.mem_cons.mp q3 with rfl | q3
        · exact .inr (IsTup.plain ⟨rfl, _, _, rfl⟩)
        rcases List.mem_cons.mp q3 with rfl | q3
        · simp at q2
        · exact .inl q3
      · exact .inr q3.plain
noncomputable abbrev a8T : List Stmt := lit (match a8 with | .If _ b _ _ => b | _ => []) _ (by conv => lhs; whnf)
noncomputable abbrev a8E : List Stmt := lit (match a8 with | .If _ _ b _ => b | _ => []) _ (by conv => lhs; whnf)
noncomputable abbrev t0 : Stmt := lit (nthSt a8T 0) _ (by conv => lhs; whnf)
noncomputable abbrev t1 : Stmt := lit (nthSt a8T 1) _ (by conv => lhs; whnf)
noncomputable abbrev t2 : Stmt := lit (nthSt a8T 2) _ (by conv => lhs; whnf)
noncomputable abbrev e0 : Stmt := lit (nthSt a8E 0) _ (by conv => lhs; whnf)
theorem a8T_is : a8T = [t0, t1, t2] := rfl
theorem a8E_is : a8E = [e0] := rfl
theorem g8_gap {QF : Flow → Shared → Prop} {fa cd : Addr} {cf co : Obj} {fv : Int} {tf : Tok} {v₀ : Option Value} (hco : co.data = .cell v₀) (hcf : cf.data = .cell (some (.int fv tf))) (hmf : (L + 1, cf) ∈ news) (hoff : ∀ p ∈ news, p.1 ≠ L + 5) (B : Below A₀ h₀ [] h₀) (F : Fr h₀ L s.heap m) (X : (KK w.params).In h₀) (N : News h₀ L s.heap ((L + 5, co) :: news)) (T : Top VW LO mean mg mb h₀) (hd : dp + 100 < recursionLimit) (hu : un + 1000 < cLine)
    (ret : ∀ h' tk' co2 gv tg, co2.data = .cell (some (.int gv tg)) → Fr h₀ L h' m → News h₀ L h' ((L + 5, co2) :: news) → QF .next { s with heap := h', toks := tk' }) :
    wpAny (model PR w) (LA dp un L fa cd) (exec t0 (LE L fa cd)) QF E s := by
  have d0 : KtsDicts (([] : List Env).filterMap (·.frame)) h₀ := ktsDicts_nil
  have k0 : Keep [] m m := Keep.of_eq rfl
  dsimp only [t0, lit]
  k_steps
  all_goals (try k_data)
  all_goals (rename Fr h₀ L _ _ => F1; rename News h₀ L _ _ => N1; exact storeX_C F1 N1 rfl (UpdF.head hoff) hco (fun h' o' F2 N2 d2 => ret h' _ o' _ _ d2 F2 N2) rfl rfl)
def PickJ (vs : List Value) (base : List (Addr × Obj)) (i : Nat) (ys : List Value) (nw : List (Addr × Obj)) : Prop := nw = base ∧ ys.length ≤ i ∧ ∀ v ∈ ys, v ∈ vs
theorem PickJ.zero (vs : List Value) (base : List (Addr × Obj)) : PickJ vs base 0 [] base := ⟨rfl, Nat.le_refl _, fun _ h => nomatch h⟩
theorem PickJ.skip {vs : List Value} {base nw : List (Addr × Obj)} {i : Nat} {ys : List Value} (h : PickJ vs base i ys nw) : PickJ vs base (i + 1) ys nw := ⟨h.1, Nat.le_succ_of_le h.2.1, h.2.2⟩
theorem PickJ.take {vs : List Value} {base nw : List (Addr × Obj)} {i : Nat} {ys : List Value} {v : Value} (h : PickJ vs base i ys nw) (hv : v ∈ vs) : PickJ vs base (i + 1) (ys ++ [v]) nw := ⟨h.1, by rw [List.length_append]; exact Nat.succ_le_succ h.2.1, fun x hx => by
  revert x hx
  refine all_a h.2.2 (fun x hx => ?_)
  · rw [List.mem_singleton.mp hx]; exact hv⟩
theorem g8_pick {QF : Flow → Shared → Prop} {fa cd al : Addr} {ca : Obj} {vs : List Value} {k : Nat} {cg : Obj} {gv : Int} {tg : Tok} (hcg : cg.data = .cell (some (.int gv tg))) (hmg : (L + 5, cg) ∈ news) (hca : ca.data = .cell (some (.ref al))) (hml : (al, W.listOf vs.toArray k) ∈ news) (hlen : vs.length = 10) (hoff : ∀ p ∈ news, p.1 ≠ L + 4) (B : Below A₀ h₀ [] h₀) (F : Fr h₀ L s.heap m) (X : (KK w.params).In h₀) (N : News h₀ L s.heap ((L + 4, ca) :: news)) (T : Top VW LO mean mg mb h₀) (hd : dp + 100 < recursionLimit) (hu : un + 1000 < cLine)
    (ret : ∀ h' tk' D (ys : List Value) co2, co2.data = .cell (some (.ref D)) → ys.length ≤ 10 → (∀ v ∈ ys, v ∈ vs) → Fr h₀ L h' m → News h₀ L h' ((L + 4, co2) :: (D, W.listOf ys.toArray ys.length) :: news) → QF .next { s with heap := h', toks := tk' }) :
    wpAny (model PR w) (LA dp un L fa cd) (exec t1 (LE L fa cd)) QF E s := by
  have sm25 : SMk 25 := trivial
  have d0 : KtsDicts (([] : List Env).filterMap (·.frame)) h₀ := ktsDicts_nil
  have k0 : Keep [] m m := Keep.of_eq rfl
  dsimp only [t1, lit]
  (k_with "eval ListComp" => (first | ((have q9 : SMk 25 := (by with_reducible assumption)); clear q9; (refine Stop.at ?_)) | fail))
  k_steps
  unfold Stop
  k_here
  refine' LCt.ListComp_T (F₀ := by k_asm) ?z1 ?z2 ?z3 ?z4 ?z5 ?z6
  (case z2 => decide)
  (case z3 => rfl)
  (case z4 => decide)
  (case z5 => rfl)
  (case z1 => with_unfolding_all rfl)
  (k_with "CompSrcT" => (first | ((have q9 : SMk 25 := (by with_reducible assumption)); clear q9; (refine Stop.at ?_)) | fail))
  k_steps
  unfold Stop
  k_here
  refine' LCt.CompSrcT.range (n := 10) rfl (by k_asm) (by k_asm) (by with_reducible assumption) (by rfl) (by rfl) (by decide) ?_
  intro g9
  refine rest_growT (n := 10) (PickJ vs) (PickJ.zero _ _) ?t9 ?f9
  case' t9 =>
    intro i9 v9 I9 oI9 C9 oC9 D9 m9 ys9 nw9 h9 tk9 E9 hi9 hv9 hJ9 hC9 hm9 F9 N9 off9 ne9
    obtain ⟨t9, rfl⟩ := hv9
    rw [hJ9.1] at N9
    rw [hJ9.1] at off9
    obtain ⟨v8, hv8⟩ : ∃ v8, vs[(0 + (i9 : Int)).toNat]? = some v8 := ⟨vs[i9], by rw [Int.zero_add, Int.toNat_natCast]; exact List.getElem?_eq_getElem (by omega)⟩
    have p9 : ∀ x : Int, 0 < (2 : Int) ^ (0 + (i9 : Int)).toNat := fun _ => Int.pow_pos (by decide)
  case' f9 => intro ys8 nw8 hJ8; (unfold LCg.FinE); intro D8 h8 tk8 F8 N8 off8
  (k_with "CompEnd" => (first | ((have q9 : SMk 25 := (by with_reducible assumption)); clear q9; (refine Stop.at ?_)) | fail))
  (k_with "storeName" => (first | ((have q9 : SMk 25 := (by with_reducible assumption)); clear q9; (refine Stop.at ?_)) | fail))
  (k_with "subscriptTail" => (first | ((have q9 : SMk 25 := (by with_reducible assumption)); clear q9; (first | (k_here; (with_reducible show wpAny _ _ (subscriptTail _ _ (Value.ref _) (Value.int _ _)) _ _ _); (refine' item_K N9 (List.mem_cons_of_mem _ (List.mem_cons_of_mem _ (List.mem_cons_of_mem _ (List.mem_cons_of_mem _ hml)))) (by omega) (by omega) hv8 ?_ (by with_unfolding_all rfl))) | fail)) | fail))
  k_steps
  case f9 =>
    unfold Stop
    rw [hJ8.1] at N8 off8
    refine storeC (rest := (D8, LCg.lst ys8) :: news) F8 N8 rfl (.tail _ (.head _)) hca (fun p hp => ?_) (fun h6 o6 F6 N6 d6 => ret h6 _ D8 ys8 o6 d6 (Nat.le_trans hJ8.2.1 (by decide)) hJ8.2.2 F6 N6) rfl rfl
    revert p hp
    exact all_c (⟨.head _, fun e => off8.1 e.symm⟩) (fun p hp => ⟨.tail _ (.tail _ hp), hoff p hp⟩)
  all_goals unfold Stop
  all_goals (rename Fr h₀ L _ _ => F7)
  all_goals (rename News h₀ L _ _ => N7)
  all_goals first
    | exact LCg.CompEnd.intro F7 N7 _ (fun p hp => hp) off9 trivial (PickJ.take (nw := (L + 4, ca) :: news) ⟨rfl, hJ9.2⟩ (List.mem_of_getElem? hv8))
    | exact LCg.CompEnd.intro F7 N7 _ (fun p hp => hp) off9 trivial (PickJ.skip (nw := (L + 4, ca) :: news) ⟨rfl, hJ9.2⟩)
theorem g8_few {QF : Flow → Shared → Prop} {fa cd al : Addr} {ca : Obj} {vs : List Value} {k : Nat} {cf : Obj} {fv : Int} {tf : Tok} (hcf : cf.data = .cell (some (.int fv tf))) (hmf : (L + 1, cf) ∈ news) (hca : ca.data = .cell (some (.ref al))) (hml : (al, W.listOf vs.toArray k) ∈ news) (hlen : vs.length = 10) (hoff : ∀ p ∈ news, p.1 ≠ L + 4) (B : Below A₀ h₀ [] h₀) (F : Fr h₀ L s.heap m) (X : (KK w.params).In h₀) (N : News h₀ L s.heap ((L + 4, ca) :: news)) (T : Top VW LO mean mg mb h₀) (hd : dp + 100 < recursionLimit) (hu : un + 1000 < cLine)
    (ret : ∀ h' tk' D (ys : List Value) co2, co2.data = .cell (some (.ref D)) → ys.length ≤ 10 → (∀ v ∈ ys, v ∈ vs) → Fr h₀ L h' m → News h₀ L h' ((L + 4, co2) :: (D, W.listOf ys.toArray ys.length) :: news) → QF .next { s with heap := h', toks := tk' }) :
    wpAny (model PR w) (LA dp un L fa cd) (exec e0 (LE L fa cd)) QF E s := by
  have sm26 : SMk 26 := trivial
  have d0 : KtsDicts (([] : List Env).filterMap (·.frame)) h₀ := ktsDicts_nil
  have k0 : Keep [] m m := Keep.of_eq rfl
  dsimp only [e0, lit]
  (k_with "eval ListComp" => (first | ((have q9 : SMk 26 := (by with_reducible assumption)); clear q9; (refine Stop.at ?_)) | fail))
  k_steps
  unfold Stop
  k_here
  refine' LCt.ListComp_T (F₀ := by k_asm) ?z1 ?z2 ?z3 ?z4 ?z5 ?z6
  (case z2 => decide)
  (case z3 => rfl)
  (case z4 => decide)
  (case z5 => rfl)
  (case z1 => with_unfolding_all rfl)
  (k_with "CompSrcT" => (first | ((have q9 : SMk 26 := (by with_reducible assumption)); clear q9; (refine Stop.at ?_)) | fail))
  k_steps
  unfold Stop
  k_here
  refine' LCt.CompSrcT.range (n := 3) rfl (by k_asm) (by k_asm) (by with_reducible assumption) (by rfl) (by rfl) (by decide) ?_
  intro g9
  refine rest_growT (n := 3) (PickJ vs) (PickJ.zero _ _) ?t9 ?f9
  case' t9 =>
    intro i9 v9 I9 oI9 C9 oC9 D9 m9 ys9 nw9 h9 tk9 E9 hi9 hv9 hJ9 hC9 hm9 F9 N9 off9 ne9
    obtain ⟨t9, rfl⟩ := hv9
    rw [hJ9.1] at N9
    rw [hJ9.1] at off9
    obtain ⟨v8, hv8⟩ : ∃ v8, vs[(0 + (i9 : Int)).toNat]? = some v8 := ⟨vs[i9], by rw [Int.zero_add, Int.toNat_natCast]; exact List.getElem?_eq_getElem (by omega)⟩
    have p9 : ∀ x : Int, 0 < (2 : Int) ^ (0 + (i9 : Int)).toNat := fun _ => Int.pow_pos (by decide)
  case' f9 => intro ys8 nw8 hJ8; (unfold LCg.FinE); intro D8 h8 tk8 F8 N8 off8
  (k_with "CompEnd" => (first | ((have q9 : SMk 26 := (by with_reducible assumption)); clear q9; (refine Stop.at ?_)) | fail))
  (k_with "storeName" => (first | ((have q9 : SMk 26 := (by with_reducible assumption)); clear q9; (refine Stop.at ?_)) | fail))
  (k_with "subscriptTail" => (first | ((have q9 : SMk 26 := (by with_reducible assumption)); clear q9; (first | (k_here; (with_reducible show wpAny _ _ (subscriptTail _ _ (Value.ref _) (Value.int _ _)) _ _ _); (refine' item_K N9 (List.mem_cons_of_mem _ (List.mem_cons_of_mem _ (List.mem_cons_of_mem _ (List.mem_cons_of_mem _ hml)))) (by omega) (by omega) hv8 ?_ (by with_unfolding_all rfl))) | fail)) | fail))
  k_steps
  case f9 =>
    unfold Stop
    rw [hJ8.1] at N8 off8
    refine storeC (rest := (D8, LCg.lst ys8) :: news) F8 N8 rfl (.tail _ (.head _)) hca (fun p hp => ?_) (fun h6 o6 F6 N6 d6 => ret h6 _ D8 ys8 o6 d6 (Nat.le_trans hJ8.2.1 (by decide)) hJ8.2.2 F6 N6) rfl rfl
    revert p hp
    exact all_c (⟨.head _, fun e => off8.1 e.symm⟩) (fun p hp => ⟨.tail _ (.tail _ hp), hoff p hp⟩)
  all_goals unfold Stop
  all_goals (rename Fr h₀ L _ _ => F7)
  all_goals (rename News h₀ L _ _ => N7)
  all_goals first
    | exact LCg.CompEnd.intro F7 N7 _ (fun p hp => hp) off9 trivial (PickJ.take (nw := (L + 4, ca) :: news) ⟨rfl, hJ9.2⟩ (List.mem_of_getElem? hv8))
    | exact LCg.CompEnd.intro F7 N7 _ (fun p hp => hp) off9 trivial (PickJ.skip (nw := (L + 4, ca) :: news) ⟨rfl, hJ9.2⟩)
theorem g8_two {QF : Flow → Shared → Prop} {fa cd wl : Addr} {v0 : Addr} {wr : List Value} {kw : Nat} (hwl : (wl, W.listOf (Value.ref v0 :: wr).toArray kw) ∈ news) (hz : wr.length ≤ 8) (l_wanted : m (Str.ofString "wanted") = some (.ref wl)) (B : Below A₀ h₀ [] h₀) (F : Fr h₀ L s.heap m) (X : (KK w.params).In h₀) (N : News h₀ L s.heap news) (T : Top VW LO mean mg mb h₀) (hd : dp + 100 < recursionLimit) (hu : un + 1000 < cLine)
    (ret : ∀ h' tk' D n, (∀ p ∈ news, p.1 < D) → Fr h₀ L h' (fun y => if y = Str.ofString "wanted" then some (.ref D) else m y) → News h₀ L h' ((D, W.listOf [Value.ref v0, Value.ref v0].toArray n) :: news) → QF .next { s with heap := h', toks := tk' }) :
    wpAny (model PR w) (LA dp un L fa cd) (exec t2 (LE L fa cd)) QF E s := by
  have sm27 : SMk 27 := trivial
  have d0 : KtsDicts (([] : List Env).filterMap (·.frame)) h₀ := ktsDicts_nil
  have e0 : fo [(Str.ofString "wanted", .ref wl)] m = m := fo_cons (by assumption) (fo_nil)
  have F' := F
  rw [← e0] at F'
  clear F
  dsimp only [t2, lit]
  (k_with "subscriptTail" => (first | ((have q9 : SMk 27 := (by with_reducible assumption)); clear q9; (first | (k_here; (with_reducible show wpAny _ _ (subscriptTail _ _ (Value.ref _) (Value.int _ _)) _ _ _); (refine' item_K (v := Value.ref v0) (by k_asm) (by first | exact hwl | exact List.mem_cons_of_mem _ hwl) (by decide) (by decide) rfl ?_ (by with_unfolding_all rfl))) | fail)) | fail))
  k_steps
  rename Fr h₀ L _ _ => F9
  rename News h₀ L _ _ => N9
  rw [e0] at F9
  exact ret _ _ _ _ (by walk_at "my:lt") F9 N9
theorem g8_all {QF : Flow → Shared → Prop} {fa cd al wl : Addr} {ca cg cf : Obj} {vg : Option Value} {fv : Int} {tf : Tok} {vs ws : List Value} {k kw : Nat} {dv : Bool} (hca : ca.data = .cell (some (.ref al))) (hcg : cg.data = .cell vg) (hcf : cf.data = .cell (some (.int fv tf))) (hmf : (L + 1, cf) ∈ news) (hml : (al, W.listOf vs.toArray k) ∈ news) (hlen : vs.length = 10) (hv : ∀ v ∈ vs, AheadV news v) (hwl : (wl, W.listOf ws.toArray kw) ∈ news) (hw : ∀ v ∈ ws, WantV news v) (hw1 : 1 ≤ ws.length) (hw5 : ws.length ≤ 5) (hoff : ∀ p ∈ news, p.1 ≠ L + 4) (hoff5 : ∀ p ∈ news, p.1 ≠ L + 5) (l_wanted : m (Str.ofString "wanted") = some (.ref wl)) (l_deep : m (Str.ofString "deep") = some (.bool dv)) (B : Below A₀ h₀ [] h₀) (F : Fr h₀ L s.heap m) (X : (KK w.params).In h₀) (N : News h₀ L s.heap ((L + 4, ca) :: (L + 5, cg) :: news)) (T : Top VW LO mean mg mb h₀) (hd : dp + 100 < recursionLimit) (hu : un + 1000 < cLine)
    (ret : ∀ m' h' tk' wl2 (ws2 : List Value) kw2 al2 (vs2 : List Value) ka2 ca2 nx, ca2.data = .cell (some (.ref al2)) → (al2, W.listOf vs2.toArray ka2) ∈ nx → vs2.length ≤ 10 → (∀ v ∈ vs2, AheadV nx v) → (wl2, W.listOf ws2.toArray kw2) ∈ nx → 1 ≤ ws2.length → ws2.length ≤ 5 → (∀ v ∈ ws2, WantV nx v) → (∀ p ∈ news, p ∈ nx) → (∀ p ∈ nx, p ∈ news ∨ Plain p.2) → Keep [Str.ofString "wanted"] m m' → m' (Str.ofString "wanted") = some (.ref wl2) → Fr h₀ L h' m' → News h₀ L h' ((L + 4, ca2) :: nx) → QF .next { s with heap := h', toks := tk' }) :
    wpAny (model PR w) (LA dp un L fa cd) (exec a8 (LE L fa cd)) QF E s := by
  have sm28 : SMk 28 := trivial
  have d0 : KtsDicts (([] : List Env).filterMap (·.frame)) h₀ := ktsDicts_nil
  have n45 : ∀ p ∈ ((L + 4, ca) :: news), p.1 ≠ L + 5 := fun p hp => by
    revert p hp
    exact all_c (Nat.ne_of_lt (by omega)) hoff5
  have n54 : ∀ {o : Obj}, ∀ p ∈ ((L + 5, o) :: news), p.1 ≠ L + 4 := fun {o} p hp => by
    revert p hp
    exact all_c (Nat.ne_of_gt (by omega)) hoff
  have kz : Keep [Str.ofString "wanted"] m m := Keep.of_eq rfl
  dsimp only [a8, lit]
  (k_with "execs cons" => (first | ((have q9 : SMk 28 := (by with_reducible assumption)); clear q9; (refine Stop.at ?_)) | fail))
  have ef : fo [(Str.ofString "deep", .bool dv)] m = m := fo_cons (by assumption) (fo_nil)
  replace F := ef.symm ▸ F
  k_steps
  all_goals unfold Stop
  all_goals (try (rw [ef] at F))
  · show wpAny _ _ (execs [t0, t1, t2] _) _ _ _
    refine wpAny_execs_cons (g8_gap (s := ⟨_, _, _, _, _⟩) (news := (L + 4, ca) :: news) hcg hcf (.tail _ hmf) n45 B F X (fun p hp => N p ?_) T hd hu (fun h1 tk1 c1 gv tg d1 F1 N1 => ?_))
    · revert p hp
      exact all_c (.tail _ (.head _)) (all_c (.head _) (fun p hp => .tail _ (.tail _ hp)))
    dsimp only
    refine wpAny_execs_cons (g8_pick (s := ⟨_, _, _, _, _⟩) (news := (L + 5, c1) :: news) d1 (.head _) hca (.tail _ hml) hlen n54 B F1 X (fun p hp => N1 p ?_) T hd hu (fun h2 tk2 D ys c2 d2 hy5 hym F2 N2 => ?_))
    · revert p hp
      exact all_c (.tail _ (.head _)) (all_c (.head _) (fun p hp => .tail _ (.tail _ hp)))
    dsimp only
    cases ws with
    | nil => exact absurd hw1 (by decide)
    | cons v0 wr =>
    have w1 := hw v0 (.head _)
    obtain ⟨t0', e0⟩ : ∃ t, v0 = .ref t := w1.elim fun t _ _ _ _ _ _ _ _ e _ _ _ _ _ _ => ⟨t, e⟩
    subst e0
    refine wpAny_execs_cons (g8_two (s := ⟨_, _, _, _, _⟩) (news := (L + 4, c2) :: (D, W.listOf ys.toArray ys.length) :: (L + 5, c1) :: news) (.tail _ (.tail _ (.tail _ hwl))) (Nat.le_trans (Nat.le_of_succ_le_succ hw5) (by decide)) l_wanted B F2 X N2 T hd hu (fun h3 tk3 D3 n3 lt3 F3 N3 => ?_))
    dsimp only
    refine wpAny_execs_nil ?_
    have wn : ∀ {nx : List (Addr × Obj)}, (∀ p ∈ news, p ∈ nx) → ∀ v ∈ [Value.ref t0', Value.ref t0'], WantV nx v := fun hs v hv => by
      revert v hv
      exact all_c (WantV.mono w1 hs) (all_c (WantV.mono w1 hs) all_n)
    refine ret _ h3 tk3 D3 [Value.ref t0', Value.ref t0'] n3 D ys ys.length c2 ((D3, W.listOf [Value.ref t0', Value.ref t0'].toArray n3) :: (D, W.listOf ys.toArray ys.length) :: news) d2 (.tail _ (.head _)) hy5 (fun v hv' => (hv v (hym v hv')).mono fun p hp => .tail _ (.tail _ hp)) (.head _) (Nat.succ_le_succ (Nat.zero_le _)) (show 2 ≤ 5 by decide) (wn fun p hp => .tail _ (.tail _ hp)) (fun p hp => .tail _ (.tail _ hp)) (fun p hp => ?_) (kz.step (by decide)) (if_pos rfl) F3 (fun p hp => N3 p ?_)
    · revert p hp
      exact all_c (.inr list_plain) (all_c (.inr list_plain) (fun p hp => .inl hp))
    · revert p hp
      exact all_c (.tail _ (.head _)) (all_c (.head _) (all_c (.tail _ (.tail _ (.head _))) (fun p hp => .tail _ (.tail _ (.tail _ (.tail _ hp))))))
  · show wpAny _ _ (execs [e0] _) _ _ _
    refine wpAny_execs_cons (g8_few (s := ⟨_, _, _, _, _⟩) (news := (L + 5, cg) :: news) hcf (.tail _ hmf) hca (.tail _ hml) hlen n54 B F X N T hd hu (fun h2 tk2 D ys c2 d2 hy5 hym F2 N2 => ?_))
    dsimp only
    refine wpAny_execs_nil ?_
    refine ret _ h2 tk2 wl ws kw D ys ys.length c2 ((D, W.listOf ys.toArray ys.length) :: news) d2 (.head _) hy5 (fun v hv' => (hv v (hym v hv')).mono fun p hp => .tail _ hp) (.tail _ hwl) hw1 hw5 (fun v hv' => (hw v hv').mono fun p hp => .tail _ hp) (fun p hp => .tail _ hp) (fun p hp => ?_) kz l_wanted F2 (fun p hp => N2 p ?_)
    · revert p hp
      exact all_c (.inr list_plain) (fun p hp => .inl hp)
    · revert p hp
      refine all_c (.head _) (all_c (.tail _ (.head _)) (fun p hp => ?_))
      · exact .tail _ (.tail _ (.tail _ hp))
        
theorem g9_parent {QF : Flow → Shared → Prop} {fa cd : Addr} (B : Below A₀ h₀ [] h₀) (F : Fr h₀ L s.heap m) (X : (KK w.params).In h₀) (N : News h₀ L s.heap news) (T : Top VW LO mean mg mb h₀) (hd : dp + 100 < recursionLimit) (hu : un + 1000 < cLine)
    (ret : ∀ m' h' tk' px pdx pl od nw, DirOk w.params px pdx pl od [] → OffD px pdx pl (nw ++ news) → FreshL news nw → (∀ p ∈ news, p.1 < pdx) → Keep [Str.ofString "parent"] m m' → m' (Str.ofString "parent") = some (.ref px) → Fr h₀ L h' m' → News h₀ L h' (dirL px pdx pl od [] 0 ++ (nw ++ news)) → QF .next { s with heap := h', toks := tk' }) :
    wpC (model PR w) (LA dp un L fa cd) (exec a9 (LE L fa cd)) QF s := by
  have d0 : KtsDicts (([] : List Env).filterMap (·.frame)) h₀ := ktsDicts_nil
  have k0 : Keep [Str.ofString "parent"] m m := Keep.of_eq rfl
  dsimp only [a9, lit]
  refine wpC_Assign_Name (wpC_ofE (ev_laid (c := 68) (b := #[68, 73, 82, 32, 32, 32, 32, 32, 32, 32, 32]) (by rfl) (by rfl) (by decide) (by decide) B F X N T hd hu (fun h1 tk1 Q' F1 N1 hQ => ?_) (fun px pdx pl od e8 d8 ba v1 v2 v3 v4 h2 tk2 ir F2 N2 lt l1 l2 l3 l4 l5 => ?_)))
  · k_steps
    exact hQ _ _ _ F1 N1
  have b1 : ∀ p ∈ news, @LT.lt Nat _ p.1 e8 := fun p hp => Nat.lt_trans (lt p hp) l1
  have b2 : ∀ p ∈ news, @LT.lt Nat _ p.1 ba := fun p hp => Nat.lt_trans (b1 p hp) l2
  have b3 : ∀ p ∈ news, @LT.lt Nat _ p.1 pdx := fun p hp => Nat.lt_trans (b2 p hp) l3
  have all : ∀ q ∈ ([(ba, baObj #[68, 73, 82, 32, 32, 32, 32, 32, 32, 32, 32] 0), (e8, instObj 243 d8), (d8, e8Dict w.params v1 v2 v3 v4 ba)] ++ news), @LT.lt Nat _ q.1 pdx := fun q hq => by
    revert q hq
    exact all_c l3 (all_c (Nat.lt_trans l2 l3) (all_c (Nat.lt_trans (Nat.lt_trans l1 l2) l3) b3))
  refine wpC_of (wpAny_storeName_local (by rfl) F2.ns (fun h4 hn4 hs4 => ?_))
  have F4 := F2.set hn4 hs4
  have N4 := N2.set hs4
  refine ret _ h4 _ px pdx pl od [(ba, baObj #[68, 73, 82, 32, 32, 32, 32, 32, 32, 32, 32] 0), (e8, instObj 243 d8), (d8, e8Dict w.params v1 v2 v3 v4 ba)] ⟨⟨_, _, ir⟩, l4, l5, Nat.zero_le _⟩ (fun q hq => ?_) (fun q hq => ?_) b3 (k0.step (by decide)) (if_pos rfl) F4 (fun p hp => ?_)
  · have h1 := all q hq
    exact ⟨Nat.ne_of_lt (Nat.lt_trans h1 (Nat.lt_trans l4 l5)), Nat.ne_of_lt (Nat.lt_trans h1 l4), Nat.ne_of_lt h1⟩
  · revert q hq
    exact all_c (⟨b2, ba_plain⟩) (all_c (⟨b1, inst_plain⟩) (all_c (⟨lt, dict_plain⟩) all_n))
  · exact N4 p hp
theorem g10_aside {QF : Flow → Shared → Prop} {fa cd : Addr} (B : Below A₀ h₀ [] h₀) (F : Fr h₀ L s.heap m) (X : (KK w.params).In h₀) (N : News h₀ L s.heap news) (T : Top VW LO mean mg mb h₀) (hd : dp + 100 < recursionLimit) (hu : un + 1000 < cLine)
    (ret : ∀ m' h' tk' c n, (∀ p ∈ news, p.1 < c) → Keep [Str.ofString "aside"] m m' → m' (Str.ofString "aside") = some (.ref c) → Fr h₀ L h' m' → News h₀ L h' ((c, W.listOf #[] n) :: news) → QF .next { s with heap := h', toks := tk' }) :
    wpAny (model PR w) (LA dp un L fa cd) (exec a10 (LE L fa cd)) QF E s := by
  have d0 : KtsDicts (([] : List Env).filterMap (·.frame)) h₀ := ktsDicts_nil
  have k0 : Keep [Str.ofString "aside"] m m := Keep.of_eq rfl
  dsimp only [a10, lit]
  k_steps
  all_goals (try k_data)
  all_goals (refine' ret _ _ _ _ _ ?g0 ?k ?q0 ?f ?n; walk_at "my:end"; (case q0 => exact rfl); (case g0 => walk_at "my:lt"))
theorem g13_folders {QF : Flow → Shared → Prop} {fa cd : Addr} (B : Below A₀ h₀ [] h₀) (F : Fr h₀ L s.heap m) (X : (KK w.params).In h₀) (N : News h₀ L s.heap news) (T : Top VW LO mean mg mb h₀) (hd : dp + 100 < recursionLimit) (hu : un + 1000 < cLine)
    (ret : ∀ m' h' tk' c n, (∀ p ∈ news, p.1 < c) → Keep [Str.ofString "folders"] m m' → m' (Str.ofString "folders") = some (.ref c) → Fr h₀ L h' m' → News h₀ L h' ((c, W.listOf #[] n) :: news) → QF .next { s with heap := h', toks := tk' }) :
    wpAny (model PR w) (LA dp un L fa cd) (exec a13 (LE L fa cd)) QF E s := by
  have d0 : KtsDicts (([] : List Env).filterMap (·.frame)) h₀ := ktsDicts_nil
  have k0 : Keep [Str.ofString "folders"] m m := Keep.of_eq rfl
  dsimp only [a13, lit]
  k_steps
  all_goals (try k_data)
  all_goals (refine' ret _ _ _ _ _ ?g0 ?k ?q0 ?f ?n; walk_at "my:end"; (case q0 => exact rfl); (case g0 => walk_at "my:lt"))
theorem g14_files {QF : Flow → Shared → Prop} {fa cd : Addr} (B : Below A₀ h₀ [] h₀) (F : Fr h₀ L s.heap m) (X : (KK w.params).In h₀) (N : News h₀ L s.heap news) (T : Top VW LO mean mg mb h₀) (hd : dp + 100 < recursionLimit) (hu : un + 1000 < cLine)
    (ret : ∀ m' h' tk' c n, (∀ p ∈ news, p.1 < c) → Keep [Str.ofString "files"] m m' → m' (Str.ofString "files") = some (.ref c) → Fr h₀ L h' m' → News h₀ L h' ((c, W.listOf #[] n) :: news) → QF .next { s with heap := h', toks := tk' }) :
    wpAny (model PR w) (LA dp un L fa cd) (exec a14 (LE L fa cd)) QF E s := by
  have d0 : KtsDicts (([] : List Env).filterMap (·.frame)) h₀ := ktsDicts_nil
  have k0 : Keep [Str.ofString "files"] m m := Keep.of_eq rfl
  dsimp only [a14, lit]
  k_steps
  all_goals (try k_data)
  all_goals (refine' ret _ _ _ _ _ ?g0 ?k ?q0 ?f ?n; walk_at "my:end"; (case q0 => exact rfl); (case g0 => walk_at "my:lt"))
noncomputable abbrev a11T : List Stmt := lit (match a11 with | .If _ b _ _ => b | _ => []) _ (by conv => lhs; whnf)
noncomputable abbrev a12T : List Stmt := lit (match a12 with | .If _ b _ _ => b | _ => []) _ (by conv => lhs; whnf)
noncomputable abbrev p0 : Stmt := lit (nthSt a11T 0) _ (by conv => lhs; whnf)
noncomputable abbrev p1 : Stmt := lit (nthSt a11T 1) _ (by conv => lhs; whnf)
noncomputable abbrev o0 : Stmt := lit (nthSt a12T 0) _ (by conv => lhs; whnf)
noncomputable abbrev o1 : Stmt := lit (nthSt a12T 1) _ (by conv => lhs; whnf)
theorem a11T_is : a11T = [p0, p1] := rfl
theorem a12T_is : a12T = [o0, o1] := rfl
theorem strs_snoc {vs : List Value} {l : List Str} {v : Str} {t : Tok} (h : StrsAre vs l) : StrsAre (vs ++ [Value.str v t]) (l ++ [v]) := by
  induction h with
  | nil => exact .cons v t .nil
  | cons y u _ ih => exact .cons y u ih
/-- what a list's growth leaves: the list and the rest of the ledger -/
theorem app_rest {h : Heap} {D : Addr} {o0 o1 : Obj} {rest : List (Addr × Obj)} (Nk : ∀ p ∈ ((D, o0) :: rest), p.1 ≠ D → News h₀ L h [p]) (Nl : News h₀ L h [(D, o1)]) (off : ∀ p ∈ rest, p.1 ≠ D) : News h₀ L h ((D, o1) :: rest) := News.of_one fun p hp => by
  revert p hp
  exact all_c Nl (fun p hp => Nk p (.tail _ hp) (off p hp))
theorem g12_app {QF : Flow → Shared → Prop} {fa cd al : Addr} {vals : List Value} {n : Nat} (hz : vals.length ≤ 8) (off : ∀ p ∈ news, p.1 ≠ al) (l_aside : m (Str.ofString "aside") = some (.ref al)) (B : Below A₀ h₀ [] h₀) (F : Fr h₀ L s.heap m) (X : (KK w.params).In h₀) (N : News h₀ L s.heap ((al, W.listOf vals.toArray n) :: news)) (T : Top VW LO mean mg mb h₀) (hd : dp + 100 < recursionLimit) (hu : un + 1000 < cLine)
    (ret : ∀ h' tk' t, Fr h₀ L h' m → News h₀ L h' ((al, W.listOf (vals ++ [Value.str (Str.ofString ".") t]).toArray (n + 1)) :: news) → QF .next { s with heap := h', toks := tk' }) :
    wpAny (model PR w) (LA dp un L fa cd) (exec o0 (LE L fa cd)) QF E s := by
  have d0 : KtsDicts (([] : List Env).filterMap (·.frame)) h₀ := ktsDicts_nil
  have e9 : fo [(Str.ofString "aside", .ref al)] m = m := fo_cons (by assumption) (fo_nil)
  have k0 : Keep [] m (fo [(Str.ofString "aside", .ref al)] m) := Keep.of_eq e9
  replace F := e9.symm ▸ F
  dsimp only [o0, lit]
  k_steps
  rename Fr h₀ L _ _ => F1
  rename News h₀ L _ _ => N1
  rw [e9] at F1
  refine app_L (items := vals) (n := n) F1 N1 (.head _) (Nat.le_trans hz (by decide)) (fun h2 F2 Nk Nl => ?_)
  try dsimp only
  have N2 := app_rest Nk Nl off
  k_steps
  exact ret _ _ _ F2 N2
theorem g11_app {QF : Flow → Shared → Prop} {fa cd al wl tl : Addr} {vals ws : List Value} {n kw : Nat} {x b y : Str} {mk : Int} {t1 t2 t3 t4 : Tok} (hz : vals.length ≤ 8) (off : ∀ p ∈ news, p.1 ≠ al) (hwl : (wl, W.listOf ws.toArray kw) ∈ news) (hw1 : 1 ≤ ws.length) (hw5 : ws.length ≤ 5) (hv : ws[ws.length - 1]? = some (.ref tl)) (htl : (tl, ({ cls := .type "tuple", data := .seq #[.str x t1, .str b t2, .str y t3, .int mk t4] 0 } : Obj)) ∈ news) (hb : b.length ≤ 8) (hy : y.length ≤ 8) (l_aside : m (Str.ofString "aside") = some (.ref al)) (l_wanted : m (Str.ofString "wanted") = some (.ref wl)) (B : Below A₀ h₀ [] h₀) (F : Fr h₀ L s.heap m) (X : (KK w.params).In h₀) (N : News h₀ L s.heap ((al, W.listOf vals.toArray n) :: news)) (T : Top VW LO mean mg mb h₀) (hd : dp + 100 < recursionLimit) (hu : un + 1000 < cLine)
    (ret : ∀ h' tk' t, Fr h₀ L h' m → News h₀ L h' ((al, W.listOf (vals ++ [Value.str (b ++ y) t]).toArray (n + 1)) :: news) → QF .next { s with heap := h', toks := tk' }) :
    wpAny (model PR w) (LA dp un L fa cd) (exec p0 (LE L fa cd)) QF E s := by
  have sm29 : SMk 29 := trivial
  have d0 : KtsDicts (([] : List Env).filterMap (·.frame)) h₀ := ktsDicts_nil
  have e9 : fo [(Str.ofString "aside", .ref al), (Str.ofString "wanted", .ref wl)] m = m := fo_cons (by assumption) (fo_cons (by assumption) (fo_nil))
  have k0 : Keep [] m (fo [(Str.ofString "aside", .ref al), (Str.ofString "wanted", .ref wl)] m) := Keep.of_eq e9
  replace F := e9.symm ▸ F
  dsimp only [p0, lit]
  (k_with "call builtin:len" => (first | ((have q9 : SMk 29 := (by with_reducible assumption)); clear q9; (first | (k_here; (with_reducible show wpAny _ _ (call (Value.builtin "len") [Value.ref wl]) _ _ _); (refine' call_len_list (list_in (by k_asm) (List.mem_cons_of_mem _ hwl)) (by rw [List.size_toArray]; omega) ?_); rw [List.size_toArray]) | fail)) | fail))
  (k_with "subscriptTail" => (first | ((have q9 : SMk 29 := (by with_reducible assumption)); clear q9; (first | (k_here; (with_reducible show wpAny _ _ (subscriptTail _ _ (Value.ref wl) (Value.int _ _)) _ _ _); (refine' item_K (v := Value.ref tl) (by k_asm) (List.mem_cons_of_mem _ hwl) (by omega) (by omega) (by rw [show (((ws.length : Nat) : Int) - 1).toNat = ws.length - 1 from toNat_sub1 _]; exact hv) ?_ (by with_unfolding_all rfl))) | (walk_at "my:itemT") | fail)) | fail))
  k_steps
  rename Fr h₀ L _ _ => F1
  rename News h₀ L _ _ => N1
  rw [e9] at F1
  refine app_L (items := vals) (n := n) F1 N1 (.head _) (Nat.le_trans hz (by decide)) (fun h2 F2 Nk Nl => ?_)
  try dsimp only
  have N2 := app_rest Nk Nl off
  k_steps
  exact ret _ _ _ F2 N2
theorem DirSt.swap {P : Params} {px pdx pl : Addr} {od : Obj} {ents : List Ent} {ext ext' rest : List (Addr × Obj)} {fs gs as : List Str} (d : DirSt P px pdx pl od ents ext rest fs gs as) (h : ∀ q ∈ ext', ∃ p ∈ ext, p.1 = q.1) : DirSt P px pdx pl od ents ext' rest fs gs as :=
  ⟨d.ok, d.off, fun q hq => by obtain ⟨p, hp, e⟩ := h q hq; rw [← e]; exact d.ofx p hp, fun q hq r hr => by obtain ⟨p, hp, e⟩ := h q hq; rw [← e]; exact d.ap p hp r hr, d.es, d.tl⟩
/-- the ledger, an outer list ahead -/
theorem dir_out {h : Heap} {px pdx pl al : Addr} {od : Obj} {ents : List Ent} {k : Nat} {o : Obj} {rest : List (Addr × Obj)} (N : News h₀ L h (dirL px pdx pl od ents k ++ ([(al, o)] ++ rest))) : News h₀ L h ((al, o) :: (dirL px pdx pl od ents k ++ rest)) := fun p hp => by
  revert p hp
  exact all_c (N _ (List.mem_append_right _ (.head _))) (all_a (fun p hp => N p (List.mem_append_left _ hp)) (fun p hp => N p (List.mem_append_right _ (.tail _ hp))))
theorem dir_in {h : Heap} {px pdx pl al : Addr} {od : Obj} {ents : List Ent} {k : Nat} {o : Obj} {rest : List (Addr × Obj)} (N : News h₀ L h ((al, o) :: (dirL px pdx pl od ents k ++ rest))) : News h₀ L h (dirL px pdx pl od ents k ++ ([(al, o)] ++ rest)) := fun p hp => by
  revert p hp
  exact all_a (fun p hp => N p (.tail _ (List.mem_append_left _ hp))) (all_c (N _ (.head _)) (fun p hp => N p (.tail _ (List.mem_append_right _ hp))))
theorem DirSt.offX {P : Params} {px pdx pl al : Addr} {od : Obj} {ents : List Ent} {k : Nat} {o : Obj} {rest : List (Addr × Obj)} {fs gs as : List Str} (d : DirSt P px pdx pl od ents [(al, o)] rest fs gs as) : ∀ p ∈ dirL px pdx pl od ents k ++ rest, p.1 ≠ al := fun p hp => by
  obtain ⟨x1, x2, x3⟩ := d.ofx (al, o) (.head _)
  revert p hp
  exact all_a (all_c (Ne.symm x1) (all_c (Ne.symm x2) (all_c (Ne.symm x3) all_n))) (fun p hp => d.ap (al, o) (.head _) p hp)
theorem dot_good : GoodB #[46, 32, 32, 32, 32, 32, 32, 32, 32, 32, 32] (Str.ofString ".") := ⟨rfl, ⟨46, rfl, by decide, by decide, by decide⟩, by decide +kernel⟩
theorem good_low {bs es : List Nat} {a y : Str} (g : Good bs es) (ha : Mine.T a = bs) (hy : Mine.T y = dotE es) : (octT a y).cps.all (· < 128) = true := by
  refine Array.all_eq_true_iff_forall_mem.mpr fun c hc => decide_eq_true ?_
  have h1 : c ∈ Mine.T (octT a y) := Array.mem_toList_iff.mpr hc
  rw [octT_T g ha hy] at h1
  exact pad_ascii g c h1
theorem dotE_len {bs es : List Nat} (g : Good bs es) : (dotE es).length ≤ 4 := by
  have := g.e3
  unfold dotE
  split
  · exact Nat.zero_le _
  · rw [List.length_cons]; omega
theorem g12_if {QF : Flow → Shared → Prop} {fa cd : Addr} {px pdx pl al : Addr} {od : Obj} {ents : List Ent} {k n : Nat} {vals : List Value} {rest : List (Addr × Obj)} {asd : List Str} {cf : Obj} {fv : Int} {tf : Tok} (hcf : cf.data = .cell (some (.int fv tf))) (hmf : (L + 1, cf) ∈ rest) (hs : StrsAre vals asd) (hz : vals.length ≤ 4) (hze : ents.length ≤ 4) (d : DirSt w.params px pdx pl od ents [(al, W.listOf vals.toArray n)] rest [] [] asd) (l_aside : m (Str.ofString "aside") = some (.ref al)) (l_parent : m (Str.ofString "parent") = some (.ref px)) (B : Below A₀ h₀ [] h₀) (F : Fr h₀ L s.heap m) (X : (KK w.params).In h₀) (N : News h₀ L s.heap (dirL px pdx pl od ents k ++ ([(al, W.listOf vals.toArray n)] ++ rest))) (T : Top VW LO mean mg mb h₀) (hd : dp + 100 < recursionLimit) (hu : un + 1000 < cLine)
    (ret : ∀ h' tk' od' (ents' : List Ent) k' nw (vals' : List Value) n' asd', StrsAre vals' asd' → vals'.length ≤ vals.length + 1 → ents'.length ≤ ents.length + 1 → DirSt w.params px pdx pl od' ents' [(al, W.listOf vals'.toArray n')] (nw ++ rest) [] [] asd' → FreshL rest nw → Fr h₀ L h' m → News h₀ L h' (dirL px pdx pl od' ents' k' ++ ([(al, W.listOf vals'.toArray n')] ++ (nw ++ rest))) → QF .next { s with heap := h', toks := tk' }) :
    wpC (model PR w) (LA dp un L fa cd) (exec a12 (LE L fa cd)) QF s := by
  have sm30 : SMk 30 := trivial
  have d0 : KtsDicts (([] : List Env).filterMap (·.frame)) h₀ := ktsDicts_nil
  have mf : (L + 1, cf) ∈ dirL px pdx pl od ents k ++ ([(al, W.listOf vals.toArray n)] ++ rest) := List.mem_append_right _ (.tail _ hmf)
  dsimp only [a12, lit]
  (k_with "And" => (first | ((have q9 : SMk 30 := (by with_reducible assumption)); clear q9; (first | ((with_reducible show (_ = true → _) ∧ _); (refine Stop.at ?_)) | fail)) | fail))
  refine wpC_If ?_
  k_steps
  all_goals unfold Stop
  refine ⟨fun _ => ?_, fun _ => wpC_execs_nil (ret _ _ od ents k [] vals n asd hs (Nat.le_succ _) (Nat.le_succ _) d (fun _ h => nomatch h) F N)⟩
  show wpC _ _ (execs [o0, o1] _) _ _
  refine wpC_execs_cons (wpC_of (g12_app (s := ⟨_, _, _, _, _⟩) (Nat.le_trans hz (by decide)) (d.offX (k := k)) l_aside B F X (dir_out N) T hd hu (fun h1 tk1 t F1 N1 => ?_)))
  dsimp only
  refine wpC_execs_cons ?_
  dsimp only [o1, lit]
  refine st_addS (s := ⟨_, _, _, _, _⟩) (b := #[46, 32, 32, 32, 32, 32, 32, 32, 32, 32, 32]) dot_good (.inr (.inl rfl)) B F1 X (dir_in N1) T hd hu (d.swap fun q hq => ⟨_, .head _, by rw [List.mem_singleton.mp hq]⟩) (Nat.le_trans (Nat.succ_le_succ hze) (by decide)) l_parent (fun ex => d.tl.other (kind_dot dot_good.nm) dot_good.nm) (fun h2 tk2 Q' F2 N2 hQ => ?_) (fun ex od' nw h2 tk2 d2 fr F2 N2 => ?_)
  · k_steps
    exact hQ _ _ _ F2 N2
  · dsimp only
    exact wpC_execs_nil (ret _ _ od' _ (k + 1) nw _ (n + 1) _ (strs_snoc hs) (by rw [List.length_append]; exact Nat.le_refl _) (by rw [List.length_append]; exact Nat.le_refl _) d2 (fun q hq => ⟨fun p hp => (fr q hq).1 p (List.mem_append_right _ (.tail _ hp)), (fr q hq).2⟩) F2 N2)
theorem g11_if {QF : Flow → Shared → Prop} {fa cd wl : Addr} {ws : List Value} {kw : Nat} {px pdx pl al : Addr} {od : Obj} {ents : List Ent} {k n : Nat} {vals : List Value} {rest : List (Addr × Obj)} {asd : List Str} {cf : Obj} {fv : Int} {tf : Tok} (hcf : cf.data = .cell (some (.int fv tf))) (hmf : (L + 1, cf) ∈ rest) (hs : StrsAre vals asd) (hz : vals.length ≤ 4) (hze : ents.length ≤ 4) (d : DirSt w.params px pdx pl od ents [(al, W.listOf vals.toArray n)] rest [] [] asd) (hwl : (wl, W.listOf ws.toArray kw) ∈ rest) (hw : ∀ v ∈ ws, WantV rest v) (hw1 : 1 ≤ ws.length) (hw5 : ws.length ≤ 5) (l_aside : m (Str.ofString "aside") = some (.ref al)) (l_parent : m (Str.ofString "parent") = some (.ref px)) (l_wanted : m (Str.ofString "wanted") = some (.ref wl)) (B : Below A₀ h₀ [] h₀) (F : Fr h₀ L s.heap m) (X : (KK w.params).In h₀) (N : News h₀ L s.heap (dirL px pdx pl od ents k ++ ([(al, W.listOf vals.toArray n)] ++ rest))) (T : Top VW LO mean mg mb h₀) (hd : dp + 100 < recursionLimit) (hu : un + 1000 < cLine)
    (ret : ∀ h' tk' od' (ents' : List Ent) k' nw (vals' : List Value) n' asd', StrsAre vals' asd' → vals'.length ≤ vals.length + 1 → ents'.length ≤ ents.length + 1 → DirSt w.params px pdx pl od' ents' [(al, W.listOf vals'.toArray n')] (nw ++ rest) [] [] asd' → FreshL rest nw → Fr h₀ L h' m → News h₀ L h' (dirL px pdx pl od' ents' k' ++ ([(al, W.listOf vals'.toArray n')] ++ (nw ++ rest))) → QF .next { s with heap := h', toks := tk' }) :
    wpC (model PR w) (LA dp un L fa cd) (exec a11 (LE L fa cd)) QF s := by
  have sm31 : SMk 31 := trivial
  have d0 : KtsDicts (([] : List Env).filterMap (·.frame)) h₀ := ktsDicts_nil
  have mf : (L + 1, cf) ∈ dirL px pdx pl od ents k ++ ([(al, W.listOf vals.toArray n)] ++ rest) := List.mem_append_right _ (.tail _ hmf)
  obtain ⟨v9, hv9⟩ : ∃ v9, ws[ws.length - 1]? = some v9 := ⟨ws[ws.length - 1], List.getElem?_eq_getElem (by omega)⟩
  refine hideG fun Z hZ => ?_
  obtain ⟨tl, x, b, y, mk, t1, t2, t3, t4, rfl, htl, hx, ha, hp, hB, _⟩ := hw v9 (List.mem_of_getElem? hv9)
  refine hZ ?_
  clear hZ Z
  have g := good_parts ha hB
  have lb : b.length ≤ 8 := by rw [← T_len, hp.tb]; exact g.b8
  have ly : y.length ≤ 8 := by rw [← T_len, hp.ty]; exact Nat.le_trans (dotE_len g) (by decide)
  have gb := oct_good g hp.tb hp.ty
  have hC := Hd.mk (good_low g hp.tb hp.ty)
  dsimp only [a11, lit]
  (k_with "And" => (first | ((have q9 : SMk 31 := (by with_reducible assumption)); clear q9; (first | ((with_reducible show (_ = true → _) ∧ _); (refine Stop.at ?_)) | fail)) | fail))
  refine wpC_If ?_
  k_steps
  all_goals unfold Stop
  refine ⟨fun _ => ?_, fun _ => wpC_execs_nil (ret _ _ od ents k [] vals n asd hs (Nat.le_succ _) (Nat.le_succ _) d (fun _ h => nomatch h) F N)⟩
  show wpC _ _ (execs [p0, Mine.p1] _) _ _
  refine wpC_execs_cons (wpC_of (g11_app (s := ⟨_, _, _, _, _⟩) (tl := tl) (Nat.le_trans hz (by decide)) (d.offX (k := k)) (List.mem_append_right _ hwl) hw1 hw5 hv9 (List.mem_append_right _ htl) lb ly l_aside l_wanted B F X (dir_out N) T hd hu (fun h1 tk1 t F1 N1 => ?_)))
  dsimp only
  refine wpC_execs_cons ?_
  dsimp only [Mine.p1, lit]
  refine st_addS (s := ⟨_, _, _, _, _⟩) gb (.inl rfl) B F1 X (dir_in N1) T hd hu (d.swap fun q hq => ⟨_, .head _, by rw [List.mem_singleton.mp hq]⟩) (Nat.le_trans (Nat.succ_le_succ hze) (by decide)) l_parent (fun ex => d.tl.other (kind_label rfl) gb.nm) (fun h2 tk2 Q' F2 N2 hQ => ?_) (fun ex od' nw h2 tk2 d2 fr F2 N2 => ?_)
  · have e9 : fo [(Str.ofString "wanted", Value.ref wl)] m = m := fo_cons (by assumption) fo_nil
    replace F2 := e9.symm ▸ F2
    have mwl : (wl, W.listOf ws.toArray kw) ∈ dirL px pdx pl od ents k ++ ([(al, W.listOf (vals ++ [Value.str (b ++ y) t]).toArray (n + 1))] ++ rest) := List.mem_append_right _ (.tail _ hwl)
    have mtl : (tl, ({ cls := .type "tuple", data := .seq #[.str x t1, .str b t2, .str y t3, .int mk t4] 0 } : Obj)) ∈ dirL px pdx pl od ents k ++ ([(al, W.listOf (vals ++ [Value.str (b ++ y) t]).toArray (n + 1))] ++ rest) := List.mem_append_right _ (.tail _ htl)
    (k_with "call builtin:len" => (first | ((have q9 : SMk 31 := (by with_reducible assumption)); clear q9; (first | (k_here; (with_reducible show wpAny _ _ (call (Value.builtin "len") [Value.ref wl]) _ _ _); (refine' call_len_list (list_in (by k_asm) mwl) (by rw [List.size_toArray]; omega) ?_); rw [List.size_toArray]) | fail)) | fail))
    (k_with "subscriptTail" => (first | ((have q9 : SMk 31 := (by with_reducible assumption)); clear q9; (first | (k_here; (with_reducible show wpAny _ _ (subscriptTail _ _ (Value.ref wl) (Value.int _ _)) _ _ _); (refine' item_K (v := Value.ref tl) (by k_asm) mwl (by omega) (by omega) (by rw [show (((ws.length : Nat) : Int) - 1).toNat = ws.length - 1 from toNat_sub1 _]; exact hv9) ?_ (by with_unfolding_all rfl))) | (walk_at "my:itemT") | fail)) | fail))
    (k_with "call ref" => (first | ((have q9 : SMk 31 := (by with_reducible assumption)); clear q9; (first | (k_here; (with_reducible show wpAny _ _ (call (Value.ref 645) _ _) _ _ _); k_dflt (refine' c_oct (by k_asm) (by k_asm) (by k_asm) (by k_asm) (by k_asm) (by exact rfl) (by walk_at "my:room") (by walk_at "my:room") (by omega) (by omega) hC ?_; k_whole); intro t9 h9 tk9 F9 N9; (try dsimp only); (try k_fold)) | fail)) | fail))
    k_steps
    rename Fr h₀ L _ _ => F3
    rename News h₀ L _ _ => N3
    rw [e9] at F3
    exact hQ _ _ _ F3 N3
  · dsimp only
    exact wpC_execs_nil (ret _ _ od' _ (k + 1) nw _ (n + 1) _ (strs_snoc hs) (by rw [List.length_append]; exact Nat.le_refl _) (by rw [List.length_append]; exact Nat.le_refl _) d2 (fun q hq => ⟨fun p hp => (fr q hq).1 p (List.mem_append_right _ (.tail _ hp)), (fr q hq).2⟩) F2 N2)
noncomputable abbrev a15B : List Stmt := lit (match a15 with | .For _ _ b _ _ => b | _ => []) _ (by conv => lhs; whnf)
noncomputable abbrev i0 : Stmt := lit (nthSt a15B 0) _ (by conv => lhs; whnf)
noncomputable abbrev i0T : List Stmt := lit (match i0 with | .If _ b _ _ => b | _ => []) _ (by conv => lhs; whnf)
noncomputable abbrev q0 : Stmt := lit (nthSt i0T 0) _ (by conv => lhs; whnf)
noncomputable abbrev q1 : Stmt := lit (nthSt i0T 1) _ (by conv => lhs; whnf)
theorem a15B_is : a15B = [i0] := rfl
theorem i0T_is : i0T = [q0, q1] := rfl
theorem g15_app {QF : Flow → Shared → Prop} {fa cd gl t : Addr} {a y : Str} {t1 t2 : Tok} {vals : List Value} {n : Nat} (hz : vals.length ≤ 40) (off : ∀ p ∈ news, p.1 ≠ gl) (ht : (t, ({ cls := .type "tuple", data := .seq #[.str a t1, .str y t2] 0 } : Obj)) ∈ news) (ha : a.length ≤ 8) (hy : y.length ≤ 8) (l_files : m (Str.ofString "files") = some (.ref gl)) (l_one : m (Str.ofString "one") = some (.ref t)) (B : Below A₀ h₀ [] h₀) (F : Fr h₀ L s.heap m) (X : (KK w.params).In h₀) (N : News h₀ L s.heap ((gl, W.listOf vals.toArray n) :: news)) (T : Top VW LO mean mg mb h₀) (hd : dp + 100 < recursionLimit) (hu : un + 1000 < cLine)
    (ret : ∀ h' tk' t, Fr h₀ L h' m → News h₀ L h' ((gl, W.listOf (vals ++ [Value.str (a ++ y) t]).toArray (n + 1)) :: news) → QF .next { s with heap := h', toks := tk' }) :
    wpAny (model PR w) (LA dp un L fa cd) (exec q0 (LE L fa cd)) QF E s := by
  have sm32 : SMk 32 := trivial
  have d0 : KtsDicts (([] : List Env).filterMap (·.frame)) h₀ := ktsDicts_nil
  have e9 : fo [(Str.ofString "files", .ref gl), (Str.ofString "one", .ref t)] m = m := fo_cons (by assumption) (fo_cons (by assumption) (fo_nil))
  have k0 : Keep [] m (fo [(Str.ofString "files", .ref gl), (Str.ofString "one", .ref t)] m) := Keep.of_eq e9
  replace F := e9.symm ▸ F
  dsimp only [q0, lit]
  have ht9 : (t, ({ cls := .type "tuple", data := .seq #[.str a t1, .str y t2] 0 } : Obj)) ∈ (gl, W.listOf vals.toArray n) :: news := .tail _ ht
  (k_with "subscriptTail" => (first | ((have q9 : SMk 32 := (by with_reducible assumption)); clear q9; (first | (walk_at "my:itemT") | fail)) | fail))
  k_steps
  rename Fr h₀ L _ _ => F1
  rename News h₀ L _ _ => N1
  rw [e9] at F1
  refine app_L (items := vals) (n := n) F1 N1 (.head _) (Nat.le_trans hz (by decide)) (fun h2 F2 Nk Nl => ?_)
  try dsimp only
  have N2 := app_rest Nk Nl off
  k_steps
  exact ret _ _ _ F2 N2
/-- the ledger, the first outer object ahead -/
theorem dir_outX {h : Heap} {px pdx pl x : Addr} {od o : Obj} {ents : List Ent} {k : Nat} {xt rest : List (Addr × Obj)} (N : News h₀ L h (dirL px pdx pl od ents k ++ (((x, o) :: xt) ++ rest))) : News h₀ L h ((x, o) :: (dirL px pdx pl od ents k ++ (xt ++ rest))) := fun p hp => by
  revert p hp
  exact all_c (N _ (List.mem_append_right _ (.head _))) (all_a (fun p hp => N p (List.mem_append_left _ hp)) (fun p hp => N p (List.mem_append_right _ (.tail _ hp))))
theorem dir_inX {h : Heap} {px pdx pl x : Addr} {od o : Obj} {ents : List Ent} {k : Nat} {xt rest : List (Addr × Obj)} (N : News h₀ L h ((x, o) :: (dirL px pdx pl od ents k ++ (xt ++ rest)))) : News h₀ L h (dirL px pdx pl od ents k ++ (((x, o) :: xt) ++ rest)) := fun p hp => by
  revert p hp
  exact all_a (fun p hp => N p (.tail _ (List.mem_append_left _ hp))) (all_c (N _ (.head _)) (fun p hp => N p (.tail _ (List.mem_append_right _ hp))))
theorem DirSt.offXt {P : Params} {px pdx pl x : Addr} {od o : Obj} {ents : List Ent} {k : Nat} {xt rest : List (Addr × Obj)} {fs gs as : List Str} (d : DirSt P px pdx pl od ents ((x, o) :: xt) rest fs gs as) (hx : ∀ p ∈ xt, p.1 ≠ x) : ∀ p ∈ dirL px pdx pl od ents k ++ (xt ++ rest), p.1 ≠ x := fun p hp => by
  obtain ⟨x1, x2, x3⟩ := d.ofx (x, o) (.head _)
  revert p hp
  exact all_a (all_c (Ne.symm x1) (all_c (Ne.symm x2) (all_c (Ne.symm x3) all_n))) (all_a hx (fun p hp => d.ap (x, o) (.head _) p hp))
theorem DirSt.head {P : Params} {px pdx pl x : Addr} {od o o' : Obj} {ents : List Ent} {xt rest : List (Addr × Obj)} {fs gs as : List Str} (d : DirSt P px pdx pl od ents ((x, o) :: xt) rest fs gs as) : DirSt P px pdx pl od ents ((x, o') :: xt) rest fs gs as := d.swap fun q hq => by
  revert q hq
  exact all_c (⟨_, .head _, rfl⟩) (fun q hq => ⟨q, .tail _ hq, rfl⟩)
theorem strs_len {vs : List Value} {l : List Str} (h : StrsAre vs l) : vs.length = l.length := by
  induction h with
  | nil => rfl
  | cons y u _ ih => rw [List.length_cons, List.length_cons, ih]
theorem g15_turn {QF : Flow → Shared → Prop} {fa cd : Addr} {px pdx pl gl t : Addr} {od : Obj} {ents : List Ent} {k n : Nat} {vals : List Value} {xt rest : List (Addr × Obj)} {gs asd : List Str} {a y : Str} {t1 t2 : Tok} {bs es : List Nat} (hs : StrsAre vals gs) (hz : gs.length ≤ 20) (hze : ents.length ≤ 20) (d : DirSt w.params px pdx pl od ents ((gl, W.listOf vals.toArray n) :: xt) rest [] gs asd) (hxt : ∀ p ∈ xt, p.1 ≠ gl) (ht : (t, ({ cls := .type "tuple", data := .seq #[.str a t1, .str y t2] 0 } : Obj)) ∈ rest) (g : Good bs es) (ha : Mine.T a = bs) (hy : Mine.T y = dotE es) (l_files : m (Str.ofString "files") = some (.ref gl)) (l_parent : m (Str.ofString "parent") = some (.ref px)) (l_one : m (Str.ofString "one") = some (.ref t)) (B : Below A₀ h₀ [] h₀) (F : Fr h₀ L s.heap m) (X : (KK w.params).In h₀) (N : News h₀ L s.heap (dirL px pdx pl od ents k ++ (((gl, W.listOf vals.toArray n) :: xt) ++ rest))) (T : Top VW LO mean mg mb h₀) (hd : dp + 100 < recursionLimit) (hu : un + 1000 < cLine)
    (ret : ∀ h' tk' od' (ents' : List Ent) k' nw (vals' : List Value) n' gs', StrsAre vals' gs' → gs'.length ≤ gs.length + 1 → ents'.length ≤ ents.length + 1 → DirSt w.params px pdx pl od' ents' ((gl, W.listOf vals'.toArray n') :: xt) (nw ++ rest) [] gs' asd → (∀ q ∈ nw, Plain q.2) → Fr h₀ L h' m → News h₀ L h' (dirL px pdx pl od' ents' k' ++ (((gl, W.listOf vals'.toArray n') :: xt) ++ (nw ++ rest))) → QF .next { s with heap := h', toks := tk' }) :
    wpC (model PR w) (LA dp un L fa cd) (exec i0 (LE L fa cd)) QF s := by
  have sm33 : SMk 33 := trivial
  have d0 : KtsDicts (([] : List Env).filterMap (·.frame)) h₀ := ktsDicts_nil
  have lb : a.length ≤ 8 := by rw [← T_len, ha]; exact g.b8
  have ly : y.length ≤ 8 := by rw [← T_len, hy]; exact Nat.le_trans (dotE_len g) (by decide)
  have gb := oct_good g ha hy
  have hC := Hd.mk (good_low g ha hy)
  have hv : Mine.T (a ++ y) = nm bs es := by rw [T_add, ha, hy]; rfl
  have lz : vals.length ≤ 40 := by rw [strs_len hs]; omega
  have e9 : fo [(Str.ofString "files", Value.ref gl), (Str.ofString "one", Value.ref t)] m = m := fo_cons (by assumption) (fo_cons (by assumption) fo_nil)
  replace F := e9.symm ▸ F
  have ht9 : (t, ({ cls := .type "tuple", data := .seq #[.str a t1, .str y t2] 0 } : Obj)) ∈ dirL px pdx pl od ents k ++ (((gl, W.listOf vals.toArray n) :: xt) ++ rest) := List.mem_append_right _ (List.mem_append_right _ ht)
  have hD : (gl, W.listOf vals.toArray n) ∈ dirL px pdx pl od ents k ++ (((gl, W.listOf vals.toArray n) :: xt) ++ rest) := List.mem_append_right _ (.head _)
  dsimp only [i0, lit]
  (k_with "And" => (first | ((have q9 : SMk 33 := (by with_reducible assumption)); clear q9; (first | ((with_reducible show (_ = true → _) ∧ _); (refine Stop.at ?_)) | fail)) | fail))
  (k_with "subscriptTail" => (first | ((have q9 : SMk 33 := (by with_reducible assumption)); clear q9; (first | (walk_at "my:itemT") | fail)) | fail))
  (k_with "compareOp NotIn str ref" => (first | ((have q9 : SMk 33 := (by with_reducible assumption)); clear q9; (first | (k_here; k_dflt (refine' notin_list_strs (list_in (by k_asm) hD) hs ?_; k_whole); (try dsimp only); (try k_fold)) | fail)) | fail))
  refine wpC_If ?_
  k_steps
  all_goals unfold Stop
  all_goals (try (rw [e9] at F))
  refine ⟨fun _ => ?_, fun _ => wpC_execs_nil (ret _ _ od ents k [] vals n gs hs (Nat.le_succ _) (Nat.le_succ _) d (fun _ h => nomatch h) F N)⟩
  show wpC _ _ (execs [q0, Mine.q1] _) _ _
  refine wpC_execs_cons (wpC_of (g15_app (s := ⟨_, _, _, _, _⟩) lz (d.offXt hxt (k := k)) (List.mem_append_right _ (List.mem_append_right _ ht)) lb ly l_files l_one B F X (dir_outX N) T hd hu (fun h1 tk1 u F1 N1 => ?_)))
  dsimp only
  refine wpC_execs_cons ?_
  dsimp only [Mine.q1, lit]
  refine st_addS (s := ⟨_, _, _, _, _⟩) gb (.inr (.inr rfl)) B F1 X (dir_inX N1) T hd hu d.head (by omega) l_parent (fun ex => d.tl.file (kind_file g hv gb.nm rfl) gb.nm) (fun h2 tk2 Q' F2 N2 hQ => ?_) (fun ex od' nw h2 tk2 d2 fr F2 N2 => ?_)
  · have e8 : fo [(Str.ofString "one", Value.ref t)] m = m := fo_cons (by assumption) fo_nil
    replace F2 := e8.symm ▸ F2
    have mt : (t, ({ cls := .type "tuple", data := .seq #[.str a t1, .str y t2] 0 } : Obj)) ∈ dirL px pdx pl od ents k ++ (((gl, W.listOf (vals ++ [Value.str (a ++ y) u]).toArray (n + 1)) :: xt) ++ rest) := List.mem_append_right _ (List.mem_append_right _ ht)
    (k_with "call ref" => (first | ((have q9 : SMk 33 := (by with_reducible assumption)); clear q9; (first | (k_here; (with_reducible show wpAny _ _ (call (Value.ref 645) _ _) _ _ _); k_dflt (refine' c_oct (by k_asm) (by k_asm) (by k_asm) (by k_asm) (by k_asm) (by exact rfl) (by walk_at "my:room") (by walk_at "my:room") (by omega) (by omega) hC ?_; k_whole); intro t9 h9 tk9 F9 N9; (try dsimp only); (try k_fold)) | fail)) | fail))
    k_steps
    rename Fr h₀ L _ _ => F3
    rename News h₀ L _ _ => N3
    rw [e8] at F3
    exact hQ _ _ _ F3 N3
  · dsimp only
    exact wpC_execs_nil (ret _ _ od' _ (k + 1) nw _ (n + 1) _ (strs_snoc hs) (by rw [List.length_append]; exact Nat.le_refl _) (by rw [List.length_append]; exact Nat.le_refl _) d2 (fun q hq => (fr q hq).2) F2 N2)
theorem g15_loop {QF : Flow → Shared → Prop} {fa cd : Addr} {px pdx pl gl al : Addr} {od ca : Obj} {ents : List Ent} {k n ka : Nat} {vs vals : List Value} {xt rest : List (Addr × Obj)} {gs asd : List Str} (hca : ca.data = .cell (some (.ref al))) (hmc : (L + 4, ca) ∈ rest) (hml : (al, W.listOf vs.toArray ka) ∈ rest) (hvs : vs.length ≤ 10) (hv : ∀ v ∈ vs, AheadV rest v) (hs : StrsAre vals gs) (hz : gs.length ≤ 5) (hze : ents.length ≤ 5) (d : DirSt w.params px pdx pl od ents ((gl, W.listOf vals.toArray n) :: xt) rest [] gs asd) (hxt : ∀ p ∈ xt, p.1 ≠ gl) (l_files : m (Str.ofString "files") = some (.ref gl)) (l_parent : m (Str.ofString "parent") = some (.ref px)) (B : Below A₀ h₀ [] h₀) (F : Fr h₀ L s.heap m) (X : (KK w.params).In h₀) (N : News h₀ L s.heap (dirL px pdx pl od ents k ++ (((gl, W.listOf vals.toArray n) :: xt) ++ rest))) (T : Top VW LO mean mg mb h₀) (hd : dp + 100 < recursionLimit) (hu : un + 1000 < cLine)
    (ret : ∀ m' h' tk' od' (ents' : List Ent) k' nw (vals' : List Value) n' gs', StrsAre vals' gs' → gs'.length ≤ gs.length + 10 → ents'.length ≤ ents.length + 10 → DirSt w.params px pdx pl od' ents' ((gl, W.listOf vals'.toArray n') :: xt) (nw ++ rest) [] gs' asd → (∀ q ∈ nw, Plain q.2) → Keep [Str.ofString "one"] m m' → Fr h₀ L h' m' → News h₀ L h' (dirL px pdx pl od' ents' k' ++ (((gl, W.listOf vals'.toArray n') :: xt) ++ (nw ++ rest))) → QF .next { s with heap := h', toks := tk' }) :
    wpC (model PR w) (LA dp un L fa cd) (exec a15 (LE L fa cd)) QF s := by
  have d0 : KtsDicts (([] : List Env).filterMap (·.frame)) h₀ := ktsDicts_nil
  have mc9 : (L + 4, ca) ∈ dirL px pdx pl od ents k ++ (((gl, W.listOf vals.toArray n) :: xt) ++ rest) := List.mem_append_right _ (List.mem_append_right _ hmc)
  dsimp only [a15, lit]
  refine For_LC (r := al) (vs := vs) (k := ka) (fun i m₁ news₁ => ∃ od' ents' k' nw vals' n' gs', news₁ = dirL px pdx pl od' ents' k' ++ (((gl, W.listOf vals'.toArray n') :: xt) ++ (nw ++ rest)) ∧ StrsAre vals' gs' ∧ gs'.length ≤ gs.length + i ∧ ents'.length ≤ ents.length + i ∧ DirSt w.params px pdx pl od' ents' ((gl, W.listOf vals'.toArray n') :: xt) (nw ++ rest) [] gs' asd ∧ (∀ q ∈ nw, Plain q.2) ∧ Keep [Str.ofString "one"] m m₁)
    (fun Q hq => ?_) rfl F N (List.mem_append_right _ (List.mem_append_right _ hml)) (xi7 od ents k [] vals n gs ⟨rfl, hs, Nat.le_refl _, Nat.le_refl _, d, (fun _ h => nomatch h), Keep.of_eq rfl⟩) (.inl fun _ _ => rfl) ?_ ?_ ?_
  · k_steps
    all_goals (first | exact hq | skip)
  · intro i v I oI m₁ news₁ h tk hvi hJ off hr F' N'
    refine hideG fun Z hZ => ?_
    obtain ⟨⟨b, rfl⟩, hJ⟩ := hJ
    refine ex7 hJ ?_
    clear hJ
    intro od' ents' k' nw vals' n' gs' hJ
    refine an7 hJ ?_
    clear hJ
    intro e0 hs' hg' he' d' pn kp
    subst e0
    refine ex7 (hv _ (List.mem_of_getElem? hvi)) ?_
    intro t a y t1 t2 bs es hq
    refine an5 hq ?_
    clear hq
    intro e1 ht g ha hy
    cases e1
    refine hZ ?_
    clear hZ Z
    have hi : i < 10 := Nat.lt_of_lt_of_le (List.getElem?_eq_some_iff.mp hvi).1 hvs
    refine wpAny_assign_Name (wpAny_storeName_local (by rfl) F'.ns (fun h4 hn4 hs4 => ?_))
    have F4 := F'.set hn4 hs4
    have N4 := N'.set hs4
    have kp4 : Keep [Str.ofString "one"] m (fun z => if z = Str.ofString "one" then some (Value.ref b) else m₁ z) := kp.step (by decide)
    have l_one : (fun z => if z = Str.ofString "one" then some (Value.ref b) else m₁ z) (Str.ofString "one") = some (.ref b) := if_pos rfl
    have hI : ∀ p ∈ dirL px pdx pl od' ents' k' ++ (((gl, W.listOf vals'.toArray n') :: xt) ++ (nw ++ rest)), p.1 ≠ I := off
    have d4 : DirSt w.params px pdx pl od' ents' ((gl, W.listOf vals'.toArray n') :: (I, oI) :: xt) (nw ++ rest) [] gs' asd := by
      refine ⟨d'.ok, d'.off, fun q hq => ?_, fun p hp q hq => ?_, d'.es, d'.tl⟩
      · revert q hq
        exact all_c (d'.ofx _ (.head _)) (all_c (⟨fun e => hI _ (List.mem_append_left _ (.head _)) e.symm, fun e => hI _ (List.mem_append_left _ (.tail _ (.head _))) e.symm, fun e => hI _ (List.mem_append_left _ (.tail _ (.tail _ (.head _)))) e.symm⟩) (fun q hq => d'.ofx _ (.tail _ hq)))
      · revert p hp
        exact all_c (d'.ap _ (.head _) q hq) (all_c (hI _ (List.mem_append_right _ (List.mem_append_right _ hq))) (fun p hp => d'.ap _ (.tail _ hp) q hq))
    refine wpC_execs_cons (g15_turn (s := ⟨_, _, _, _, _⟩) (m := fun z => if z = Str.ofString "one" then some (Value.ref b) else m₁ z) (k := k') (xt := (I, oI) :: xt) hs' (le_in hg' hz (Nat.le_of_lt hi) (by decide)) (le_in he' hze (Nat.le_of_lt hi) (by decide)) d4 (fun p hp => ?_) (List.mem_append_right _ ht) g ha hy (kp4.at l_files) (kp4.at l_parent) l_one B F4 X (fun p hp => N4 p ?_) T hd hu (fun h5 tk5 od5 ents5 k5 nw5 vals5 n5 gs5 s5 z5 e5 d5 pn5 F5 N5 => ?_))
    · revert p hp
      exact all_c (fun e => hI _ (List.mem_append_right _ (.head _)) e.symm) hxt
    · revert p hp
      exact all_a (fun p hp => .tail _ (List.mem_append_left _ hp)) (all_c (.tail _ (List.mem_append_right _ (.head _))) (all_c (.head _) (fun p hp => .tail _ (List.mem_append_right _ (.tail _ hp)))))
    dsimp only
    refine wpC_execs_nil (.inl ⟨rfl, h5, tk5, _, dirL px pdx pl od5 ents5 k5 ++ (((gl, W.listOf vals5.toArray n5) :: xt) ++ ((nw5 ++ nw) ++ rest)), rfl, F5, fun p hp => ?_, fun p hp => ?_, ?_, xi7 od5 ents5 k5 (nw5 ++ nw) vals5 n5 gs5 ⟨rfl, s5, le_up hg' z5, le_up he' e5, ?_, ?_, kp4⟩⟩)
    · revert p hp
      exact all_c (N5 _ (List.mem_append_right _ (.tail _ (.head _)))) (all_a (fun p hp => N5 p (List.mem_append_left _ hp)) (all_c (N5 _ (List.mem_append_right _ (.head _))) (all_a (fun p hp => N5 p (List.mem_append_right _ (.tail _ (.tail _ (List.mem_append_left _ hp))))) (fun p hp => N5 p (List.mem_append_right _ (.tail _ (.tail _ (List.mem_append_right _ (by rw [← List.append_assoc]; exact hp)))))))))
    · revert p hp
      refine all_a (fun p hp => ?_) (all_c (hI (gl, W.listOf vals'.toArray n') (List.mem_append_right _ (.head _))) (all_a (fun p hp => hI p (List.mem_append_right _ (.tail _ (List.mem_append_left _ hp)))) (fun p hp => d5.ap (I, oI) (.tail _ (.head _)) p (by rw [← List.append_assoc]; exact hp))))
      · obtain ⟨x1, x2, x3⟩ := d5.ofx (I, oI) (.tail _ (.head _))
        rcases List.mem_cons.mp hp with rfl | hp
        · exact Ne.symm x1
        rcases List.mem_cons.mp hp with rfl | hp
        · exact Ne.symm x2
        rcases List.mem_cons.mp hp with rfl | hp
        · exact Ne.symm x3
        · cases hp
    · exact List.mem_append_right _ (List.mem_append_right _ (List.mem_append_right _ hml))
    · rw [List.append_assoc]
      exact d5.swap fun q hq => by
        revert q hq
        exact all_c (⟨_, .head _, rfl⟩) (fun q hq => ⟨q, .tail _ (.tail _ hq), rfl⟩)
    · intro q hq
      revert q hq
      exact all_a pn5 pn
  · intro h' tk m' news' F' N' hJ
    refine hideG fun Z hZ => ?_
    refine ex7 hJ ?_
    clear hJ
    intro od' ents' k' nw vals' n' gs' hJ
    refine an7 hJ ?_
    clear hJ
    intro e0 hs' hg' he' d' pn kp
    subst e0
    refine hZ ?_
    clear hZ Z
    exact ret m' h' tk od' ents' k' nw vals' n' gs' hs' (Nat.le_trans hg' (Nat.add_le_add_left hvs _)) (Nat.le_trans he' (Nat.add_le_add_left hvs _)) d' pn kp F' N'
  · intro v hv'
    exact ex7 (hv v hv') fun t _ _ _ _ _ _ h => ⟨t, h.1⟩
noncomputable abbrev a16B : List Stmt := lit (match a16 with | .For _ _ b _ _ => b | _ => []) _ (by conv => lhs; whnf)
noncomputable abbrev m0 : Stmt := lit (nthSt a16B 0) _ (by conv => lhs; whnf)
noncomputable abbrev m1 : Stmt := lit (nthSt a16B 1) _ (by conv => lhs; whnf)
noncomputable abbrev m2 : Stmt := lit (nthSt a16B 2) _ (by conv => lhs; whnf)
noncomputable abbrev m3 : Stmt := lit (nthSt a16B 3) _ (by conv => lhs; whnf)
noncomputable abbrev m4 : Stmt := lit (nthSt a16B 4) _ (by conv => lhs; whnf)
noncomputable abbrev m5 : Stmt := lit (nthSt a16B 5) _ (by conv => lhs; whnf)
noncomputable abbrev m6 : Stmt := lit (nthSt a16B 6) _ (by conv => lhs; whnf)
noncomputable abbrev m7 : Stmt := lit (nthSt a16B 7) _ (by conv => lhs; whnf)
noncomputable abbrev m8 : Stmt := lit (nthSt a16B 8) _ (by conv => lhs; whnf)
noncomputable abbrev m9 : Stmt := lit (nthSt a16B 9) _ (by conv => lhs; whnf)
theorem a16B_is : a16B = [m0, m1, m2, m3, m4, m5, m6, m7, m8, m9] := rfl
theorem DirOk.at {P : Params} {px pdx pl : Addr} {od : Obj} {ents : List Ent} {k : Nat} (h : DirOk P px pdx pl od ents) (hs : ∀ p ∈ dirL px pdx pl od ents k, p ∈ news) : DirIn P news px pl := by
  obtain ⟨e8, par, ho⟩ := h.rc
  exact ⟨pdx, od, e8, par, ho, hs _ (.tail _ (.head _)), hs _ (.tail _ (.tail _ (.head _)))⟩
/-- the table of make_8dot3_name's code: empty, or it holds one code object of the ledger -/
def TabOk (rest : List (Addr × Obj)) (ps : Array Value) : Prop := ps = #[] ∨ ∃ c' oc vs t, ps = #[rawInt mcPos.line, rawInt mcPos.col, .ref c'] ∧ (c', oc) ∈ rest ∧ oc.data = .fields vs ∧ vs[1]? = some (.str mcQual t)
theorem TabOk.mono {rest rest' : List (Addr × Obj)} {ps : Array Value} (h : TabOk rest ps) (hs : ∀ p ∈ rest, p ∈ rest') : TabOk rest' ps := by
  rcases h with e | ⟨c', oc, vs, t, e, hm, d1, d2⟩
  · exact .inl e
  · exact .inr ⟨c', oc, vs, t, e, hs _ hm, d1, d2⟩
theorem g16_make {QF : Flow → Shared → Prop} {fa cd px pdx pl : Addr} {od : Obj} {ents : List Ent} {k : Nat} {rest0 : List (Addr × Obj)} {x : Str} {tx : Tok} {ps : Array Value} (ok : DirOk w.params px pdx pl od ents) (hdl : ∀ p ∈ dirL px pdx pl od ents k, p ∈ news) (he : ∀ e ∈ ents, EntOk w.params news e) (hP : (234, tabObj ps) ∈ news) (hs : ∀ q ∈ rest0, q ∈ news) (hne : ∀ q ∈ rest0, q.1 ≠ 234) (hps : TabOk rest0 ps) (hx : x.length ≤ 21) (ha : Asc x) (hB : mB (Mine.T x) ≠ []) (hn : ents.length ≤ 29) (l_text : m (Str.ofString "text") = some (.str x tx)) (l_parent : m (Str.ofString "parent") = some (.ref px)) (B : Below A₀ h₀ [] h₀) (F : Fr h₀ L s.heap m) (X : (KK w.params).In h₀) (N : News h₀ L s.heap news) (T : Top VW LO mean mg mb h₀) (hd : dp + 100 < recursionLimit) (hu : un + 1000 < cLine)
    (ret : ∀ m' h' tk' v t j c' oc vs t₁, Mine.T v = mkN (mB (Mine.T x)) (mE (Mine.T x)) j → Tried ((shown ents).map fun e => nameT e.b) (mB (Mine.T x)) (mE (Mine.T x)) j → (∀ y ∈ ((shown ents).map fun e => nameT e.b), Mine.T y ≠ mkN (mB (Mine.T x)) (mE (Mine.T x)) j) → j ≤ 30 → oc.data = .fields vs → vs[1]? = some (.str mcQual t₁) → c' ≠ 234 → ((∀ q ∈ rest0, q.1 < c') ∨ ((c', oc) ∈ rest0 ∧ ps = #[rawInt mcPos.line, rawInt mcPos.col, .ref c'])) → Keep [Str.ofString "told"] m m' → m' (Str.ofString "told") = some (.str v t) → Fr h₀ L h' m' → News h₀ L h' ((234, tabObj #[rawInt mcPos.line, rawInt mcPos.col, .ref c']) :: (c', oc) :: rest0) → QF .next { s with heap := h', toks := tk' }) :
    wpAny (model PR w) (LA dp un L fa cd) (exec m0 (LE L fa cd)) QF E s := by
  have sm34 : SMk 34 := trivial
  have d0 : KtsDicts (([] : List Env).filterMap (·.frame)) h₀ := ktsDicts_nil
  have e9 : fo [(Str.ofString "text", Value.str x tx), (Str.ofString "parent", Value.ref px)] m = m := fo_cons (by assumption) (fo_cons (by assumption) fo_nil)
  replace F := e9.symm ▸ F
  obtain ⟨u, hu'⟩ : ∃ u, Txt.upper x = u := ⟨_, rfl⟩
  have g := good_parts ha hB
  have ln : ((shown ents).map fun e => nameT e.b).length ≤ 29 := by rw [List.length_map]; exact Nat.le_trans (shown_len ents) hn
  have hw := whl_good g ln
  have hcut := cut_ok ha hu'
  have hz9 : Hd (ents.length ≤ 64) := ⟨Nat.le_trans hn (by decide)⟩
  have hu1 : u.length ≤ 64 := by rw [up_len ha hu']; exact Nat.le_trans hx (by decide)
  have hx1 : x.length ≤ 64 := Nat.le_trans hx (by decide)
  have hu2 := up_slash ha hu'
  have hdi := ok.at hdl
  have hml := hdl _ (.head _)
  dsimp only [m0, lit]
  (k_with "call ref" => (first | ((have q9 : SMk 34 := (by with_reducible assumption)); clear q9; (first | (k_here; (with_reducible show wpAny _ _ (call (Value.ref 237) _ _) _ _ _); refine Stop.at ?_) | fail)) | fail))
  k_steps
  unfold Stop
  refine c_make (rest := rest0) (k := k) (ps := ps) B F X (by k_asm) T (by exact rfl) (by omega) (by omega) hdi hml he hz9 hP hs hne hps hu' hx1 hu1 hu2 hcut hw ?_
  intro v9 t9 j9 c9 oc9 vs9 tt9 h9 tk9 T9 tr9 nt9 lj9 F9 N9 d9 e19 ne9 or9
  k_steps
  rename Fr h₀ L _ _ => F8
  rename News h₀ L _ _ => N8
  rw [e9] at F8
  exact ret _ _ _ v9 _ j9 c9 oc9 vs9 _ T9 tr9 nt9 lj9 d9 e19 ne9 or9 ((Keep.of_eq rfl : Keep [Str.ofString "told"] m m).step (by decide)) (if_pos rfl) F8 N8
/-! ## plain laws: the due name -/
theorem dg_steps : ∀ k, k < 40 → 1 ≤ (dgS k).length ∧ (dgS k).length ≤ (dgS (k + 1)).length := by
  have h : ∀ k : Fin 40, 1 ≤ (dgS k.val).length ∧ (dgS k.val).length ≤ (dgS (k.val + 1)).length := by decide +kernel
  exact fun k hk => h ⟨k, hk⟩
theorem mkB_long {bs : List Nat} (h6 : 6 ≤ bs.length) : ∀ k, k + 1 ≤ 40 → mkB bs (k + 1) = bs.take (7 - (dgS (k + 1)).length) ++ 126 :: dg (k + 1)
  | 0, _ => rfl
  | k + 1, hk => by
    have ih := mkB_long h6 k (by omega)
    obtain ⟨q1, _⟩ := dg_steps (k + 1) (by omega)
    obtain ⟨_, q2⟩ := dg_steps (k + 1) (by omega)
    have e : mkB bs (k + 1 + 1) = (mkB bs (k + 1)).take (7 - (dgS (k + 1 + 1)).length) ++ 126 :: dg (k + 1 + 1) := rfl
    rw [e, ih]
    congr 1
    rw [List.take_append_of_le_length (by rw [List.length_take]; exact Nat.le_min.2 ⟨Nat.sub_le_sub_left q2 7, Nat.le_trans (Nat.sub_le_sub_left (Nat.le_trans q1 q2) 7) h6⟩), List.take_take, Nat.min_eq_left (Nat.sub_le_sub_left q2 7)]
theorem due0 {b y : Str} {bs es : List Nat} (hb : Mine.T b = bs) (hy : Mine.T y = dotE es) : Mine.T (b ++ y) = mkN bs es 0 := by rw [T_add, hb, hy]; rfl
theorem due1 {b y : Str} {bs es : List Nat} (hb : Mine.T b = bs) (hy : Mine.T y = dotE es) : Mine.T (Txt.slice b none (some 6) ++ Str.ofString "~1" ++ y) = mkN bs es 1 := by
  rw [T_add, T_add, show (6 : Int) = ((6 : Nat) : Int) from rfl, T_slN, hb, hy]
  have e : mkN bs es 1 = (bs.take (7 - (dgS 1).length) ++ 126 :: dg 1) ++ dotE es := rfl
  rw [e, dg_one 1 (by decide)]
  rfl
theorem dueK {b y : Str} {bs es : List Nat} {k : Nat} (hb : Mine.T b = bs) (hy : Mine.T y = dotE es) (h6 : 6 ≤ bs.length) (hk : k + 1 ≤ 40) : Mine.T (Txt.slice b none (some (7 - ((Str.ofString (toString ((k + 1 : Nat) : Int))).length : Int))) ++ Str.ofString "~" ++ Str.ofString (toString ((k + 1 : Nat) : Int)) ++ y) = mkN bs es (k + 1) := by
  have h1 := dg_len (k + 1) hk
  have e : (7 - ((Str.ofString (toString ((k + 1 : Nat) : Int))).length : Int)) = ((7 - (dgS (k + 1)).length : Nat) : Int) := by
    show 7 - ((dgS (k + 1)).length : Int) = _
    omega
  rw [e, T_add, T_add, T_add, T_slN, hb, hy]
  have e2 : mkN bs es (k + 1) = mkB bs (k + 1) ++ dotE es := rfl
  rw [e2, mkB_long h6 k hk, List.append_assoc, List.append_assoc, List.append_assoc]
  rfl
/-- what the due name is after the law's own search -/
def DueOk (nms : List Str) (bs es : List Nat) (j : Nat) (d : Str) : Prop := Mine.T d = mkN bs es j ∨ (bs.length ≤ 5 ∧ 1 ≤ j ∧ ∃ x ∈ nms, x = d)
theorem in_not {nms : List Str} {bs es : List Nat} {j k : Nat} {d : Str} (hd : Mine.T d = mkN bs es k) (hnt : ∀ x ∈ nms, Mine.T x ≠ mkN bs es j) (hin : (nms.any (· == d)) = true) : k ≠ j := fun e => by
  obtain ⟨x, hx, q⟩ := List.any_eq_true.mp hin
  rw [eq_of_beq q] at hx
  exact hnt d hx (by rw [hd, e])
theorem not_in {nms : List Str} {bs es : List Nat} {j k : Nat} {d : Str} (hd : Mine.T d = mkN bs es k) (ht : Tried nms bs es j) (hk : k ≤ j) (hin : (nms.any (· == d)) = false) : k = j := by
  rcases Nat.lt_or_eq_of_le hk with h | h
  · obtain ⟨x, hx, e⟩ := ht k h
    have : x = d := T_inj (e.trans hd.symm)
    have q := List.any_eq_false.mp hin x hx
    rw [this, beq_self_eq_true] at q
    exact absurd rfl q
  · exact h
theorem any_of {nms : List Str} {d : Str} (h : ∃ x ∈ nms, x = d) : (nms.any (· == d)) = true := by
  obtain ⟨x, hx, rfl⟩ := h
  exact List.any_eq_true.mpr ⟨x, hx, beq_self_eq_true x⟩
theorem of_any {nms : List Str} {d : Str} (h : (nms.any (· == d)) = true) : ∃ x ∈ nms, x = d := by
  obtain ⟨x, hx, q⟩ := List.any_eq_true.mp h
  exact ⟨x, hx, eq_of_beq q⟩
theorem told_not {nms : List Str} {bs es : List Nat} {j : Nat} {v : Str} (hv : Mine.T v = mkN bs es j) (hnt : ∀ x ∈ nms, Mine.T x ≠ mkN bs es j) : (nms.any (· == v)) = false := by
  cases q : nms.any (· == v) with
  | false => rfl
  | true => exact absurd rfl (in_not hv hnt q)
theorem mk_good {bs es : List Nat} (g : Good bs es) {j : Nat} (hj : j ≤ 40) : Good (mkB bs j) es := mkB_good g j hj
theorem strs_app : ∀ {vs ws : List Value} {a b : List Str}, StrsAre vs a → StrsAre ws b → StrsAre (vs ++ ws) (a ++ b)
  | _, _, _, _, .nil, h => h
  | _, _, _, _, .cons y t r, h => .cons y t (strs_app r h)
theorem g16_taken {QF : Flow → Shared → Prop} {fa cd fl gl : Addr} {fv gv : List Value} {n1 n2 : Nat} {fs gs : List Str} (hf : (fl, W.listOf fv.toArray n1) ∈ news) (hg : (gl, W.listOf gv.toArray n2) ∈ news) (sf : StrsAre fv fs) (sg : StrsAre gv gs) (zf : fs.length ≤ 30) (zg : gs.length ≤ 30) (l_folders : m (Str.ofString "folders") = some (.ref fl)) (l_files : m (Str.ofString "files") = some (.ref gl)) (B : Below A₀ h₀ [] h₀) (F : Fr h₀ L s.heap m) (X : (KK w.params).In h₀) (N : News h₀ L s.heap news) (T : Top VW LO mean mg mb h₀) (hd : dp + 100 < recursionLimit) (hu : un + 1000 < cLine)
    (ret : ∀ m' h' tk' D zs n, StrsAre zs (fs ++ gs) → (∀ p ∈ news, p.1 < D) → Keep [Str.ofString "taken"] m m' → m' (Str.ofString "taken") = some (.ref D) → Fr h₀ L h' m' → News h₀ L h' ((D, W.listOf zs.toArray n) :: news) → QF .next { s with heap := h', toks := tk' }) :
    wpAny (model PR w) (LA dp un L fa cd) (exec m1 (LE L fa cd)) QF E s := by
  have sm35 : SMk 35 := trivial
  have d0 : KtsDicts (([] : List Env).filterMap (·.frame)) h₀ := ktsDicts_nil
  have e9 : fo [(Str.ofString "folders", .ref fl), (Str.ofString "files", .ref gl)] m = m := fo_cons (by assumption) (fo_cons (by assumption) (fo_nil))
  have k0 : Keep [] m (fo [(Str.ofString "folders", .ref fl), (Str.ofString "files", .ref gl)] m) := Keep.of_eq e9
  replace F := e9.symm ▸ F
  have lf := strs_len sf
  have lg := strs_len sg
  dsimp only [m1, lit]
  (k_with "binaryOp Add ref ref" => (first | ((have q9 : SMk 35 := (by with_reducible assumption)); clear q9; (first | (k_here; (with_reducible show wpAny _ _ (binaryOp Operator.Add (Value.ref _) (Value.ref _)) _ _ _); refine Stop.at ?_) | fail)) | fail))
  k_steps
  unfold Stop
  refine kmk_add_lit (zs := fv ++ gv) F N (list_in N hf) (list_in N hg) rfl (fun D h9 F9 N9 l9 => ?_) (by rw [PySem.sizeLine_eq]; show fv.length + gv.length ≤ _; omega)
  k_steps
  rename Fr h₀ L _ _ => F8
  rename News h₀ L _ _ => N8
  rw [e9] at F8
  exact ret _ _ _ D (fv ++ gv) 0 (strs_app sf sg) l9 ((Keep.of_eq rfl : Keep [Str.ofString "taken"] m m).step (by decide)) (if_pos rfl) F8 N8
theorem g16_due {QF : Flow → Shared → Prop} {fa cd : Addr} {c2 c3 : Obj} {b y : Str} {tb ty : Tok} (h2 : c2.data = .cell (some (.str b tb))) (h3 : c3.data = .cell (some (.str y ty))) (hm2 : (L + 2, c2) ∈ news) (hm3 : (L + 3, c3) ∈ news) (lb : b.length ≤ 8) (ly : y.length ≤ 8) (B : Below A₀ h₀ [] h₀) (F : Fr h₀ L s.heap m) (X : (KK w.params).In h₀) (N : News h₀ L s.heap news) (T : Top VW LO mean mg mb h₀) (hd : dp + 100 < recursionLimit) (hu : un + 1000 < cLine)
    (ret : ∀ m' h' tk' t, Keep [Str.ofString "due"] m m' → m' (Str.ofString "due") = some (.str (b ++ y) t) → Fr h₀ L h' m' → News h₀ L h' news → QF .next { s with heap := h', toks := tk' }) :
    wpAny (model PR w) (LA dp un L fa cd) (exec m2 (LE L fa cd)) QF E s := by
  have d0 : KtsDicts (([] : List Env).filterMap (·.frame)) h₀ := ktsDicts_nil
  have k0 : Keep [Str.ofString "due"] m m := Keep.of_eq rfl
  dsimp only [m2, lit]
  k_steps
  all_goals (exact ret _ _ _ _ (k0.step (by decide)) (if_pos rfl) (by k_asm) (by k_asm))
noncomputable abbrev m3T : List Stmt := lit (match m3 with | .If _ b _ _ => b | _ => []) _ (by conv => lhs; whnf)
noncomputable abbrev u0 : Stmt := lit (nthSt m3T 0) _ (by conv => lhs; whnf)
noncomputable abbrev u1 : Stmt := lit (nthSt m3T 1) _ (by conv => lhs; whnf)
noncomputable abbrev u2 : Stmt := lit (nthSt m3T 2) _ (by conv => lhs; whnf)
theorem m3T_is : m3T = [u0, u1, u2] := rfl
theorem g16_while {QF : Flow → Shared → Prop} {fa cd D : Addr} {c2 c3 : Obj} {b y : Str} {tb ty : Tok} (h2 : c2.data = .cell (some (.str b tb))) (h3 : c3.data = .cell (some (.str y ty))) (hm2 : (L + 2, c2) ∈ news) (hm3 : (L + 3, c3) ∈ news) {bs es : List Nat} (g : Good bs es) (hb : Mine.T b = bs) (hy : Mine.T y = dotE es) {zs : List Value} {n j : Nat} {nms : List Str} {d : Str} {td tk1 : Tok} (hD : (D, W.listOf zs.toArray n) ∈ news) (hs : StrsAre zs nms) (htr : Tried nms bs es j) (hnt : ∀ x ∈ nms, Mine.T x ≠ mkN bs es j) (hj1 : 1 ≤ j) (hj : j ≤ 30) (hd1 : Mine.T d = mkN bs es 1) (l_due : m (Str.ofString "due") = some (.str d td)) (l_taken : m (Str.ofString "taken") = some (.ref D)) (l_k : m (Str.ofString "k") = some (.int 1 tk1)) (B : Below A₀ h₀ [] h₀) (F : Fr h₀ L s.heap m) (X : (KK w.params).In h₀) (N : News h₀ L s.heap news) (T : Top VW LO mean mg mb h₀) (hd : dp + 100 < recursionLimit) (hu : un + 1000 < cLine)
    (ret : ∀ m' h' tk' d' t, DueOk nms bs es j d' → Keep [Str.ofString "due", Str.ofString "k"] m m' → m' (Str.ofString "due") = some (.str d' t) → Fr h₀ L h' m' → News h₀ L h' news → QF .next { s with heap := h', toks := tk' }) :
    wpAny (model PR w) (LA dp un L fa cd) (exec u2 (LE L fa cd)) QF E s := by
  have sm36 : SMk 36 := trivial
  have d0 : KtsDicts (([] : List Env).filterMap (·.frame)) h₀ := ktsDicts_nil
  have lb : b.length ≤ 8 := by rw [← T_len, hb]; exact g.b8
  have ly : y.length ≤ 8 := by rw [← T_len, hy]; exact Nat.le_trans (dotE_len g) (by decide)
  have lB : b.length = bs.length := by rw [← T_len, hb]
  dsimp only [u2, lit]
  refine While_K (fun n9 m₁ nw => nw = news ∧ Keep [Str.ofString "due", Str.ofString "k"] m m₁ ∧ ∃ k d t tk, n9 + k = 40 ∧ 1 ≤ k ∧ k ≤ j ∧ m₁ (Str.ofString "due") = some (.str d t) ∧ m₁ (Str.ofString "k") = some (.int ((k : Nat) : Int) tk) ∧ Mine.T d = mkN bs es k) F N 39 ⟨rfl, Keep.of_eq rfl, 1, d, td, tk1, rfl, Nat.le_refl _, hj1, l_due, l_k, hd1⟩ ?_
  intro n9 m9 nw9 h9 tk9 hJ9 F9 N9
  refine hideG fun Z hZ => ?_
  obtain ⟨en9, kp, k, d9, t9, tkk, hn9, hk1, hkj, q1, q2, hd9⟩ := hJ9
  refine hZ ?_
  clear hZ Z
  rw [en9] at N9
  have q3 := kp.at l_taken
  have e9 : fo [(Str.ofString "due", Value.str d9 t9), (Str.ofString "k", Value.int (k : Int) tkk), (Str.ofString "taken", Value.ref D)] m9 = m9 := fo_cons q1 (fo_cons q2 (fo_cons q3 fo_nil))
  have kp9 : Keep [Str.ofString "due", Str.ofString "k"] m (fo [(Str.ofString "due", Value.str d9 t9), (Str.ofString "k", Value.int (k : Int) tkk), (Str.ofString "taken", Value.ref D)] m9) := by rw [e9]; exact kp
  replace F9 := e9.symm ▸ F9
  have dl9 := dg_len (k + 1) (by omega)
  replace dl9 : (Str.ofString (toString ((k : Int) + 1))).length ≤ 2 := dl9
  (k_with "compareOp In str ref" => (first | ((have q9 : SMk 36 := (by with_reducible assumption)); clear q9; (first | (k_here; k_dflt (refine' in_list_strs (list_in (by k_asm) hD) hs ?_; k_whole); (try dsimp only); (try k_fold)) | fail)) | fail))
  (k_with "loadName" => (first | ((have q9 : SMk 36 := (by with_reducible assumption)); clear q9; (first | (k_here; refine wpAny_loadName_local (by rfl) (by rfl) (Fr.ns (by k_asm)) (by rfl) ?_) | fail)) | fail))
  k_steps
  · rename List.any _ _ = true => w9
    have w8 : 6 ≤ bs.length := by
      rename (6 : Int) ≤ _ => w8
      omega
    have hne := in_not hd9 hnt w9
    have hdk := dueK (b := b) (y := y) (k := k) hb hy w8 (by omega)
    exact ⟨_, _, _, news, n9 - 1, rfl, (by k_asm), (by k_asm), (by omega), rfl, (kp9.step (by decide)).step (by decide), k + 1, _, _, _, (by omega), (by omega), (by omega), if_pos rfl, rfl, hdk⟩
  · rename List.any _ _ = true => w9
    have w8 : bs.length ≤ 5 := by
      rename ¬ (6 : Int) ≤ _ => w8
      omega
    rw [e9] at F9
    exact ret _ _ _ d9 t9 (.inr ⟨w8, hj1, of_any w9⟩) kp q1 F9 N9
  · rename List.any _ _ = false => w9
    rw [e9] at F9
    exact ret _ _ _ d9 t9 (.inl (by rw [hd9, not_in hd9 htr hkj w9])) kp q1 F9 N9
theorem g16_search {QF : Flow → Shared → Prop} {fa cd D : Addr} {c2 c3 : Obj} {b y : Str} {tb ty : Tok} (h2 : c2.data = .cell (some (.str b tb))) (h3 : c3.data = .cell (some (.str y ty))) (hm2 : (L + 2, c2) ∈ news) (hm3 : (L + 3, c3) ∈ news) {bs es : List Nat} (g : Good bs es) (hb : Mine.T b = bs) (hy : Mine.T y = dotE es) {zs : List Value} {n j : Nat} {nms : List Str} {d : Str} {td : Tok} (hD : (D, W.listOf zs.toArray n) ∈ news) (hs : StrsAre zs nms) (htr : Tried nms bs es j) (hnt : ∀ x ∈ nms, Mine.T x ≠ mkN bs es j) (hj : j ≤ 30) (hd1 : Mine.T d = mkN bs es 0) (l_due : m (Str.ofString "due") = some (.str d td)) (l_taken : m (Str.ofString "taken") = some (.ref D)) (B : Below A₀ h₀ [] h₀) (F : Fr h₀ L s.heap m) (X : (KK w.params).In h₀) (N : News h₀ L s.heap news) (T : Top VW LO mean mg mb h₀) (hd : dp + 100 < recursionLimit) (hu : un + 1000 < cLine)
    (ret : ∀ m' h' tk' d' t, DueOk nms bs es j d' → Keep [Str.ofString "due", Str.ofString "k"] m m' → m' (Str.ofString "due") = some (.str d' t) → Fr h₀ L h' m' → News h₀ L h' news → QF .next { s with heap := h', toks := tk' }) :
    wpAny (model PR w) (LA dp un L fa cd) (exec m3 (LE L fa cd)) QF E s := by
  have sm37 : SMk 37 := trivial
  have d0 : KtsDicts (([] : List Env).filterMap (·.frame)) h₀ := ktsDicts_nil
  have lb : b.length ≤ 8 := by rw [← T_len, hb]; exact g.b8
  have ly : y.length ≤ 8 := by rw [← T_len, hy]; exact Nat.le_trans (dotE_len g) (by decide)
  have e9 : fo [(Str.ofString "due", Value.str d td), (Str.ofString "taken", Value.ref D)] m = m := fo_cons (by assumption) (fo_cons (by assumption) fo_nil)
  have k9 : Keep [Str.ofString "due", Str.ofString "k"] m (fo [(Str.ofString "due", Value.str d td), (Str.ofString "taken", Value.ref D)] m) := Keep.of_eq e9
  replace F := e9.symm ▸ F
  dsimp only [m3, lit]
  (k_with "compareOp In str ref" => (first | ((have q9 : SMk 37 := (by with_reducible assumption)); clear q9; (first | (k_here; k_dflt (refine' in_list_strs (list_in (by k_asm) hD) hs ?_; k_whole); (try dsimp only); (try k_fold)) | fail)) | fail))
  (k_with "exec While" => (first | ((have q9 : SMk 37 := (by with_reducible assumption)); clear q9; (refine Stop.at ?_)) | fail))
  (k_with "exec While BoolOp" => (first | ((have q9 : SMk 37 := (by with_reducible assumption)); clear q9; (refine Stop.at ?_)) | fail))
  (k_with "exec While BoolOp cons cons" => (first | ((have q9 : SMk 37 := (by with_reducible assumption)); clear q9; (refine Stop.at ?_)) | fail))
  (k_with "exec While BoolOp cons nil" => (first | ((have q9 : SMk 37 := (by with_reducible assumption)); clear q9; (refine Stop.at ?_)) | fail))
  k_steps
  · unfold Stop
    have hin := (by with_reducible assumption : (nms.any fun x => x == d) = true)
    have hj1 : 1 ≤ j := Nat.pos_of_ne_zero fun e => in_not hd1 hnt hin e.symm
    rename Fr h₀ L _ _ => F8
    rename News h₀ L _ _ => N8
    have l_taken' : m (Str.ofString "taken") = some (.ref D) := l_taken
    refine g16_while (s := ⟨_, _, _, _, _⟩) h2 h3 hm2 hm3 g hb hy hD hs htr hnt hj1 hj (due1 hb hy) (by rfl) (by exact (congrFun e9 _).trans l_taken) (by rfl) B F8 X N8 T hd hu (fun m' h' tk' d' t q1 kp q2 F9 N9 => ?_)
    k_steps
    exact ret m' h' _ d' t q1 (((k9.step (by decide)).step (by decide)).trans kp) q2 F9 N9
  · rename List.any _ _ = false => w9
    rw [e9] at F
    exact ret _ _ _ d td (.inl (by rw [hd1, not_in hd1 htr (Nat.zero_le _) w9])) (Keep.of_eq rfl) l_due F N
theorem g16_judge {QF : Flow → Shared → Prop} {fa cd D : Addr} {c2 c3 : Obj} {b y : Str} {tb ty : Tok} (h2 : c2.data = .cell (some (.str b tb))) (h3 : c3.data = .cell (some (.str y ty))) (hm2 : (L + 2, c2) ∈ news) (hm3 : (L + 3, c3) ∈ news) {bs es : List Nat} (g : Good bs es) (hb : Mine.T b = bs) (hy : Mine.T y = dotE es) {zs : List Value} {n j : Nat} {nms : List Str} {d v : Str} {td tv : Tok} (hD : (D, W.listOf zs.toArray n) ∈ news) (hs : StrsAre zs nms) (hnt : ∀ x ∈ nms, Mine.T x ≠ mkN bs es j) (hj : j ≤ 30) (hv : Mine.T v = mkN bs es j) (hdue : DueOk nms bs es j d) (l_due : m (Str.ofString "due") = some (.str d td)) (l_told : m (Str.ofString "told") = some (.str v tv)) (l_taken : m (Str.ofString "taken") = some (.ref D)) (B : Below A₀ h₀ [] h₀) (F : Fr h₀ L s.heap m) (X : (KK w.params).In h₀) (N : News h₀ L s.heap news) (T : Top VW LO mean mg mb h₀) (hd : dp + 100 < recursionLimit) (hu : un + 1000 < cLine)
    (ret : ∀ h' tk', Fr h₀ L h' m → News h₀ L h' news → QF .next { s with heap := h', toks := tk' }) :
    wpAny (model PR w) (LA dp un L fa cd) (exec m4 (LE L fa cd)) QF E s := by
  have sm38 : SMk 38 := trivial
  have d0 : KtsDicts (([] : List Env).filterMap (·.frame)) h₀ := ktsDicts_nil
  have nv := told_not hv hnt
  rcases hdue with hd' | ⟨h5, hj1, hin⟩
  · obtain rfl : d = v := T_inj (hd'.trans hv.symm)
    have e9 : fo [(Str.ofString "due", Value.str d td), (Str.ofString "told", Value.str d tv), (Str.ofString "taken", Value.ref D)] m = m := fo_cons (by assumption) (fo_cons (by assumption) (fo_cons (by assumption) fo_nil))
    replace F := e9.symm ▸ F
    dsimp only [m4, lit]
    (k_with "compareOp NotIn str ref" => (first | ((have q9 : SMk 38 := (by with_reducible assumption)); clear q9; (first | (k_here; k_dflt (refine' notin_list_strs (list_in (by k_asm) hD) hs ?_; k_whole); (rw [nv]); (try dsimp only); (try k_fold)) | fail)) | fail))
    (k_with "compareOp In str ref" => (first | ((have q9 : SMk 38 := (by with_reducible assumption)); clear q9; (first | (k_here; k_dflt (refine' in_list_strs (list_in (by k_asm) hD) hs ?_; k_whole); (rw [nv]); (try dsimp only); (try k_fold)) | fail)) | fail))
    k_steps
    all_goals first
      | (rename (_ != _) = true => w9; rw [bne_self_eq_false] at w9; cases w9)
      | (rw [e9] at F; exact ret _ _ F N)
  · refine hideG fun Z hZ => ?_
    obtain ⟨fr, dg9, l, n1, n2, n3, n4, n5, n6, n7, n8, n9, n10, n11, n12, n13, n14, n15⟩ := (num_ok (x := v) g h5 hj1 (by omega) hv hb hy).ex
    refine hZ ?_
    clear hZ Z
    have iv := any_of hin
    have e9 : fo [(Str.ofString "due", Value.str d td), (Str.ofString "told", Value.str v tv), (Str.ofString "taken", Value.ref D)] m = m := fo_cons (by assumption) (fo_cons (by assumption) (fo_cons (by assumption) fo_nil))
    replace F := e9.symm ▸ F
    dsimp only [m4, lit]
    (k_with "compareOp NotIn str ref" => (first | ((have q9 : SMk 38 := (by with_reducible assumption)); clear q9; (first | (k_here; k_dflt (refine' notin_list_strs (list_in (by k_asm) hD) hs ?_; k_whole); (rw [iv]); (try dsimp only); (try k_fold)) | fail)) | fail))
    (k_with "compareOp In str ref" => (first | ((have q9 : SMk 38 := (by with_reducible assumption)); clear q9; (first | (k_here; k_dflt (refine' in_list_strs (list_in (by k_asm) hD) hs ?_; k_whole); (rw [nv]); (try dsimp only); (try k_fold)) | fail)) | fail))
    (k_with "call ref" => (first | ((have q9 : SMk 38 := (by with_reducible assumption)); clear q9; (first | (k_here; (with_reducible show wpAny _ _ (call (Value.ref 664) _ _) _ _ _); refine Stop.at ?_) | fail)) | fail))
    k_steps
    unfold Stop
    refine c_num B F X N T (by rfl) (by omega) (by omega) n1 n2 n3 n4 n5 n6 n7 n8 n9 n10 n11 n12 n13 n14 n15 (fun h8 tk8 F8 N8 => ?_)
    k_steps
    rename Fr h₀ L _ _ => F7
    rename News h₀ L _ _ => N7
    rw [e9] at F7
    exact ret _ _ F7 N7
theorem g16_short {QF : Flow → Shared → Prop} {fa cd : Addr} (B : Below A₀ h₀ [] h₀) (F : Fr h₀ L s.heap m) (X : (KK w.params).In h₀) (N : News h₀ L s.heap news) (T : Top VW LO mean mg mb h₀) (hd : dp + 100 < recursionLimit) (hu : un + 1000 < cLine)
    (ret : ∀ m' h' tk' x dx v1 v2 v3 v4, (∀ p ∈ news, p.1 < dx) → @LT.lt Nat _ dx x → Keep [Str.ofString "short"] m m' → m' (Str.ofString "short") = some (.ref x) → Fr h₀ L h' m' → News h₀ L h' ((x, instObj 243 dx) :: (dx, e8Dict0 w.params v1 v2 v3 v4) :: news) → QF .next { s with heap := h', toks := tk' }) :
    wpAny (model PR w) (LA dp un L fa cd) (exec m5 (LE L fa cd)) QF E s := by
  have sm39 : SMk 39 := trivial
  have d0 : KtsDicts (([] : List Env).filterMap (·.frame)) h₀ := ktsDicts_nil
  have k0 : Keep [Str.ofString "short"] m m := Keep.of_eq rfl
  dsimp only [m5, lit]
  (k_with "call ref" => (first | ((have q9 : SMk 39 := (by with_reducible assumption)); clear q9; (first | (k_here; (with_reducible show wpAny _ _ (call (Value.ref 243) _ _) _ _ _); refine Stop.at ?_) | fail)) | fail))
  k_steps
  unfold Stop
  refine c_e8 B F X N T (by rfl) (by omega) (by omega) (fun x9 d9 v1 v2 v3 v4 h9 tk9 F9 N9 lt9 l9 => ?_)
  k_steps
  rename Fr h₀ L _ _ => F7
  rename News h₀ L _ _ => N7
  exact ret _ _ _ x9 d9 v1 v2 v3 v4 lt9 l9 (k0.step (by decide)) (if_pos rfl) F7 N7
theorem g16_try {QF : Flow → Shared → Prop} {fa cd e8 d8 : Addr} {v1 v2 v3 v4 tv : Tok} {v : Str} (hc : Conf v) (hp : ∀ a b, SplitIs v a b → (padT a b).length = 11 ∧ (padT a b).cps.all (· < 128) = true) (l1 : ∀ p ∈ news, p.1 < d8) (l2 : @LT.lt Nat _ d8 e8) (l_short : m (Str.ofString "short") = some (.ref e8)) (l_told : m (Str.ofString "told") = some (.str v tv)) (B : Below A₀ h₀ [] h₀) (F : Fr h₀ L s.heap m) (X : (KK w.params).In h₀) (N : News h₀ L s.heap ((e8, instObj 243 d8) :: (d8, e8Dict0 w.params v1 v2 v3 v4) :: news)) (T : Top VW LO mean mg mb h₀) (hd : dp + 100 < recursionLimit) (hu : un + 1000 < cLine)
    (ret : ∀ a b, SplitIs v a b → ∀ ba v1 v3 h' tk', Fr h₀ L h' m → News h₀ L h' ((ba, baObj (encB (padT a b)) 0) :: (e8, instObj 243 d8) :: (d8, e8Dict w.params v1 v2 v3 v4 ba) :: news) → @LT.lt Nat _ e8 ba → QF .next { s with heap := h', toks := tk' }) :
    wpC (model PR w) (LA dp un L fa cd) (exec m6 (LE L fa cd)) QF s := by
  have d0 : KtsDicts (([] : List Env).filterMap (·.frame)) h₀ := ktsDicts_nil
  have e9 : fo [(Str.ofString "short", Value.ref e8), (Str.ofString "told", Value.str v tv)] m = m := fo_cons (by assumption) (fo_cons (by assumption) fo_nil)
  replace F := e9.symm ▸ F
  dsimp only [m6, lit]
  refine wpC_Try (wpE_execs_cons (wpE_ofC (wpC_Expr (wpC_method ?_))))
  k_steps
  refine callWith_C (P := fun h => (KK w.params).In h) (fun h (hX : (KK w.params).In h) => ?hk) ?_
  case hk =>
    obtain ⟨k, hk, lk⟩ := keeps_K (K := KK w.params) (f := .ref 194) (by k_is) h hX
    exact ⟨k, hk, lk⟩
  k_steps
  all_goals first | exact Frag.In.keeps X (Fr.keep (by assumption)) | refine wpC_call ?_
  rename Fr h₀ L _ _ => F7
  rename News h₀ L _ _ => N7
  rw [e9] at F7
  refine c_ssn hc hp B F7 X N7 l1 l2 T (by rfl) (by omega) (by omega) (fun a b sp ba v1' v3' h' tk' F' N' lb => ?_)
  exact wpE_execs_nil (wpC_execs_nil (ret a b sp ba _ _ _ _ F' N' lb))
theorem g16_back {QF : Flow → Shared → Prop} {fa cd e8 d8 ba : Addr} {v1 v2 v3 v4 tv : Tok} {v : Str} {b : Array UInt8} (h1 : (e8, instObj 243 d8) ∈ news) (h2 : (d8, e8Dict w.params v1 v2 v3 v4 ba) ∈ news) (h3 : (ba, baObj b 0) ∈ news) (gb : GoodB b v) (l_short : m (Str.ofString "short") = some (.ref e8)) (l_told : m (Str.ofString "told") = some (.str v tv)) (B : Below A₀ h₀ [] h₀) (F : Fr h₀ L s.heap m) (X : (KK w.params).In h₀) (N : News h₀ L s.heap news) (T : Top VW LO mean mg mb h₀) (hd : dp + 100 < recursionLimit) (hu : un + 1000 < cLine)
    (ret : ∀ h' tk', Fr h₀ L h' m → News h₀ L h' news → QF .next { s with heap := h', toks := tk' }) :
    wpAny (model PR w) (LA dp un L fa cd) (exec m7 (LE L fa cd)) QF E s := by
  have sm40 : SMk 40 := trivial
  have d0 : KtsDicts (([] : List Env).filterMap (·.frame)) h₀ := ktsDicts_nil
  have e9 : fo [(Str.ofString "short", Value.ref e8), (Str.ofString "told", Value.str v tv)] m = m := fo_cons (by assumption) (fo_cons (by assumption) fo_nil)
  replace F := e9.symm ▸ F
  obtain ⟨ob1, ob2⟩ := gb.ok
  dsimp only [m7, lit]
  (k_with "call ref" => (first | ((have q9 : SMk 40 := (by with_reducible assumption)); clear q9; (first | (k_here; (with_reducible show wpAny _ _ (call (Value.ref 163) _ _) _ _ _); refine Stop.at ?_) | fail)) | fail))
  k_steps
  unfold Stop
  refine wpAny_call (m_text (hdl := none) B F X N T (by rfl) (by omega) (by omega) trivial h1 h2 h3 ob1 ob2 (fun t9 h9 tk9 F9 N9 => ?_))
  dsimp only
  rw [gb.nm]
  k_steps
  all_goals first
    | (rename (_ != _) = true => w9; rw [bne_self_eq_false] at w9; cases w9)
    | (rename Fr h₀ L _ _ => F7; rename News h₀ L _ _ => N7; rw [e9] at F7; exact ret _ _ F7 N7)
theorem DirSt.cons {P : Params} {px pdx pl a : Addr} {od o : Obj} {ents : List Ent} {ext R : List (Addr × Obj)} {fs gs as : List Str} (d : DirSt P px pdx pl od ents ext R fs gs as) (hd : a ≠ pl ∧ a ≠ px ∧ a ≠ pdx) (hx : ∀ p ∈ ext, a ≠ p.1) : DirSt P px pdx pl od ents ext ((a, o) :: R) fs gs as :=
  ⟨d.ok, fun q hq => by
    revert q hq
    exact all_c hd (fun q hq => d.off q hq), d.ofx, fun p hp q hq => by
    revert q hq
    exact all_c (hx p hp) (fun q hq => d.ap p hp q hq), fun e he => (d.es e he).mono fun p hp => .tail _ hp, d.tl⟩
theorem DirSt.fresh {P : Params} {px pdx pl a : Addr} {od o : Obj} {ents : List Ent} {k : Nat} {ext R : List (Addr × Obj)} {fs gs as : List Str} (d : DirSt P px pdx pl od ents ext R fs gs as) (h : ∀ p ∈ dirL px pdx pl od ents k ++ (ext ++ R), p.1 < a) : DirSt P px pdx pl od ents ext ((a, o) :: R) fs gs as :=
  d.cons ⟨Ne.symm (Nat.ne_of_lt (h _ (List.mem_append_left _ (.head _)))), Ne.symm (Nat.ne_of_lt (h _ (List.mem_append_left _ (.tail _ (.head _))))), Ne.symm (Nat.ne_of_lt (h _ (List.mem_append_left _ (.tail _ (.tail _ (.head _))))))⟩ fun p hp => Ne.symm (Nat.ne_of_lt (h p (List.mem_append_right _ (List.mem_append_left _ hp))))
/-- an object put ahead of the rest -/
theorem led_cons {h : Heap} {px pdx pl a : Addr} {od o : Obj} {ents : List Ent} {k : Nat} {ext R : List (Addr × Obj)} (N : News h₀ L h ((a, o) :: (dirL px pdx pl od ents k ++ (ext ++ R)))) : News h₀ L h (dirL px pdx pl od ents k ++ (ext ++ ((a, o) :: R))) := fun p hp => by
  revert p hp
  exact all_a (fun p hp => N p (.tail _ (List.mem_append_left _ hp))) (all_a (fun p hp => N p (.tail _ (List.mem_append_right _ (List.mem_append_left _ hp)))) (all_c (N _ (.head _)) (fun p hp => N p (.tail _ (List.mem_append_right _ (List.mem_append_right _ hp))))))
noncomputable abbrev a16T : PySem.Expr := lit (match a16 with | .For t _ _ _ _ => t | _ => .Constant .none 0 default) _ (by conv => lhs; whnf)
theorem g16_assign {Q : Unit → Shared → Prop} {fa cd t : Addr} {c2 c3 : Obj} {v2 v3 : Option Value} {x b y : Str} {mk : Int} {t1 t2 t3 t4 : Tok} (h2 : c2.data = .cell v2) (h3 : c3.data = .cell v3) (o2 : ∀ p ∈ news, p.1 ≠ L + 2) (o3 : ∀ p ∈ news, p.1 ≠ L + 3) (ht : (t, ({ cls := .type "tuple", data := .seq #[.str x t1, .str b t2, .str y t3, .int mk t4] 0 } : Obj)) ∈ news) (B : Below A₀ h₀ [] h₀) (F : Fr h₀ L s.heap m) (X : (KK w.params).In h₀) (N : News h₀ L s.heap ((L + 2, c2) :: (L + 3, c3) :: news)) (T : Top VW LO mean mg mb h₀) (hd : dp + 100 < recursionLimit) (hu : un + 1000 < cLine)
    (ret : ∀ m' h' tk' c2 c3 u1 u2 u3 u4, c2.data = .cell (some (.str b u2)) → c3.data = .cell (some (.str y u3)) → Keep [Str.ofString "text", Str.ofString "mark"] m m' → m' (Str.ofString "text") = some (.str x u1) → m' (Str.ofString "mark") = some (.int mk u4) → Fr h₀ L h' m' → News h₀ L h' ((L + 2, c2) :: (L + 3, c3) :: news) → Q () { s with heap := h', toks := tk' }) :
    wpAny (model PR w) (LA dp un L fa cd) (assign a16T (LE L fa cd) (.ref t)) Q E s := by
  dsimp only [a16T, lit]
  refine unpackN_ F N (News.isTup N (.tail _ (.tail _ ht))) rfl rfl rfl (fun h4 F4 N4 => ?_)
  refine assignInOrder_cons (wpAny_assign_Name (wpAny_storeName_local (by rfl) F4.ns (fun h5 hn5 hs5 => ?_)))
  have F5 := F4.set hn5 hs5
  have N5 := N4.set hs5
  refine assignInOrder_cons (wpAny_assign_Name (storeC (rest := (L + 3, c3) :: news) F5 N5 rfl (.head _) h2 (fun p hp => ⟨.tail _ hp, ?_⟩) (fun h6 c2' F6 N6 d2 => ?_) rfl rfl))
  · revert p hp
    exact all_c (Nat.ne_of_gt (by omega)) o2
  refine assignInOrder_cons (wpAny_assign_Name (storeC (rest := (L + 2, c2') :: news) F6 N6 rfl (.tail _ (.head _)) h3 (fun p hp => ?_) (fun h7 c3' F7 N7 d3 => ?_) rfl rfl))
  · revert p hp
    exact all_c (⟨.head _, Nat.ne_of_lt (by omega)⟩) (fun p hp => ⟨.tail _ (.tail _ hp), o3 p hp⟩)
  refine assignInOrder_cons (wpAny_assign_Name (wpAny_storeName_local (by rfl) F7.ns (fun h8 hn8 hs8 => ?_)))
  have F8 := F7.set hn8 hs8
  have N8 := N7.set hs8
  refine assignInOrder_nil (ret _ _ _ c2' c3' _ _ _ _ d2 d3 (((Keep.of_eq rfl : Keep [Str.ofString "text", Str.ofString "mark"] m m).step (by decide)).step (by decide)) rfl rfl F8 (fun p hp => N8 p ?_))
  revert p hp
  exact all_c (.tail _ (.head _)) (all_c (.head _) (fun p hp => .tail _ (.tail _ hp)))
theorem g16_add {QF : Flow → Shared → Prop} {fa cd px pdx pl e8 d8 ba : Addr} {od : Obj} {ents : List Ent} {k : Nat} {mk : Int} {tm : Tok} {b : Array UInt8} {v : Str} {ext rest : List (Addr × Obj)} {fs gs as fs' gs' : List Str} {v1 v2 v3 v4 : Tok} (gb : GoodB b v) (hm : mk = 16 ∨ mk = 32) (d : DirSt w.params px pdx pl od ents ext rest fs gs as) (hz : ents.length + 1 ≤ 40) (ht : ∀ ex, Tells (ents ++ [⟨ex, b, mk⟩]) fs' gs' as) (h1 : (e8, instObj 243 d8) ∈ rest) (h2 : (d8, e8Dict w.params v1 v2 v3 v4 ba) ∈ rest) (h3 : (ba, baObj b 0) ∈ rest) (l_short : m (Str.ofString "short") = some (.ref e8)) (l_mark : m (Str.ofString "mark") = some (.int mk tm)) (l_parent : m (Str.ofString "parent") = some (.ref px)) (B : Below A₀ h₀ [] h₀) (F : Fr h₀ L s.heap m) (X : (KK w.params).In h₀) (N : News h₀ L s.heap (dirL px pdx pl od ents k ++ (ext ++ rest))) (T : Top VW LO mean mg mb h₀) (hd : dp + 100 < recursionLimit) (hu : un + 1000 < cLine)
    (ret : ∀ ex od' nw h' tk', DirSt w.params px pdx pl od' (ents ++ [⟨ex, b, mk⟩]) ext (nw ++ rest) fs' gs' as → Fr h₀ L h' m → News h₀ L h' (dirL px pdx pl od' (ents ++ [⟨ex, b, mk⟩]) (k + 1) ++ (ext ++ (nw ++ rest))) → QF .next { s with heap := h', toks := tk' }) :
    wpC (model PR w) (LA dp un L fa cd) (exec m8 (LE L fa cd)) QF s := by
  have sm41 : SMk 41 := trivial
  have d0 : KtsDicts (([] : List Env).filterMap (·.frame)) h₀ := ktsDicts_nil
  dsimp only [m8, lit]
  refine st_addE (mk := mk) (b := b) B F X N T hd hu d.ok (d.ofx.app d.off) hz l_parent (fun h4 tk4 Q' F4 N4 hQ => wpE_of ?_) (fun ex od' nw h' tk' ok hE fr F' N' => ret ex od' nw h' tk' (d.add ok hE gb.ok (.inr hm) fr (ht ex)) F' N')
  have e9 : fo [(Str.ofString "short", Value.ref e8), (Str.ofString "mark", Value.int mk tm)] m = m := fo_cons (by assumption) (fo_cons (by assumption) fo_nil)
  replace F4 := e9.symm ▸ F4
  (k_with "call ref" => (first | ((have q9 : SMk 41 := (by with_reducible assumption)); clear q9; (first | (k_here; (with_reducible show wpAny _ _ (call (Value.ref 652) _ _) _ _ _); refine Stop.at ?_) | fail)) | fail))
  k_steps
  unfold Stop
  refine c_lrec B F4 X N4 T (by rfl) (by omega) (by omega) (fun x dx dl od9 h9 tk9 ir F9 N9 lt l2 l3 => ?_)
  k_steps
  rw [e9] at F9
  exact hQ x dx dl od9 e8 [] h9 _ ir F9 N9 (fun _ h => nomatch h) lt l2 l3 ⟨d8, ba, v1, v2, v3, v4, h1, h2, h3⟩
theorem g16_app {QF : Flow → Shared → Prop} {fa cd fl gl : Addr} {fv gv : List Value} {n1 n2 : Nat} {fs gs : List Str} {v : Str} {tv tm : Tok} {mk : Int} (sf : StrsAre fv fs) (sg : StrsAre gv gs) (zf : fs.length ≤ 30) (zg : gs.length ≤ 30) (hm : mk = 16 ∨ mk = 32) (hne : @Ne Nat fl gl) (of : ∀ p ∈ news, p.1 ≠ fl) (og : ∀ p ∈ news, p.1 ≠ gl) (l_folders : m (Str.ofString "folders") = some (.ref fl)) (l_files : m (Str.ofString "files") = some (.ref gl)) (l_told : m (Str.ofString "told") = some (.str v tv)) (l_mark : m (Str.ofString "mark") = some (.int mk tm)) (B : Below A₀ h₀ [] h₀) (F : Fr h₀ L s.heap m) (X : (KK w.params).In h₀) (N : News h₀ L s.heap ((fl, W.listOf fv.toArray n1) :: (gl, W.listOf gv.toArray n2) :: news)) (T : Top VW LO mean mg mb h₀) (hd : dp + 100 < recursionLimit) (hu : un + 1000 < cLine)
    (ret : ∀ h' tk' fv' n1' gv' n2', StrsAre fv' (if mk = 16 then fs ++ [v] else fs) → StrsAre gv' (if mk = 16 then gs else gs ++ [v]) → Fr h₀ L h' m → News h₀ L h' ((fl, W.listOf fv'.toArray n1') :: (gl, W.listOf gv'.toArray n2') :: news) → QF .next { s with heap := h', toks := tk' }) :
    wpAny (model PR w) (LA dp un L fa cd) (exec m9 (LE L fa cd)) QF E s := by
  have d0 : KtsDicts (([] : List Env).filterMap (·.frame)) h₀ := ktsDicts_nil
  have lf := strs_len sf
  have lg := strs_len sg
  have e9 : fo [(Str.ofString "folders", Value.ref fl), (Str.ofString "files", Value.ref gl), (Str.ofString "told", Value.str v tv), (Str.ofString "mark", Value.int mk tm)] m = m := fo_cons (by assumption) (fo_cons (by assumption) (fo_cons (by assumption) (fo_cons (by assumption) fo_nil)))
  replace F := e9.symm ▸ F
  dsimp only [m9, lit]
  rcases hm with rfl | rfl
  · k_steps
    rename Fr h₀ L _ _ => F1
    rename News h₀ L _ _ => N1
    rw [e9] at F1
    refine app_L (items := fv) (n := n1) F1 N1 (.head _) (by omega) (fun h2 F2 Nk Nl => ?_)
    try dsimp only
    have N2 := app_rest Nk Nl (fun p hp => by
      revert p hp
      exact all_c (Ne.symm hne) (fun p hp => of p hp))
    k_steps
    exact ret _ _ _ _ _ _ (strs_snoc sf) sg F2 N2
  · k_steps
    rename Fr h₀ L _ _ => F1
    rename News h₀ L _ _ => N1
    rw [e9] at F1
    have N1' : News h₀ L _ ((gl, W.listOf gv.toArray n2) :: (fl, W.listOf fv.toArray n1) :: news) := fun p hp => by
      revert p hp
      exact all_c (N1 _ (.tail _ (.head _))) (all_c (N1 _ (.head _)) (fun p hp => N1 _ (.tail _ (.tail _ hp))))
    refine app_L (items := gv) (n := n2) F1 N1' (.head _) (by omega) (fun h2 F2 Nk Nl => ?_)
    try dsimp only
    have N2 := app_rest Nk Nl (fun p hp => by
      revert p hp
      exact all_c hne (fun p hp => og p hp))
    k_steps
    exact ret _ _ _ _ _ _ sf (strs_snoc sg) F2 (fun p hp => N2 p (by
      revert p hp
      refine all_c (.tail _ (.head _)) (all_c (.head _) (fun p hp => ?_))
      · exact .tail _ (.tail _ hp)))
        
/-- what the loop over the wanted names may change, beside the directory -/
noncomputable abbrev ext5 (fl gl : Addr) (fv gv : List Value) (n1 n2 : Nat) (ps : Array Value) (L : Addr) (c2 c3 : Obj) (xt : List (Addr × Obj)) : List (Addr × Obj) := (fl, W.listOf fv.toArray n1) :: (gl, W.listOf gv.toArray n2) :: (234, tabObj ps) :: (L + 2, c2) :: (L + 3, c3) :: xt
theorem led_three {h : Heap} {px pdx pl a1 a2 a3 : Addr} {od o1 o2 o3 : Obj} {ents : List Ent} {k : Nat} {ext R : List (Addr × Obj)} (N : News h₀ L h ((a1, o1) :: (a2, o2) :: (a3, o3) :: (dirL px pdx pl od ents k ++ (ext ++ R)))) : News h₀ L h (dirL px pdx pl od ents k ++ (ext ++ ((a1, o1) :: (a2, o2) :: (a3, o3) :: R))) := fun p hp => by
  revert p hp
  exact all_a (fun p hp => N p (.tail _ (.tail _ (.tail _ (List.mem_append_left _ hp))))) (all_a (fun p hp => N p (.tail _ (.tail _ (.tail _ (List.mem_append_right _ (List.mem_append_left _ hp)))))) (all_c (N _ (.head _)) (all_c (N _ (.tail _ (.head _))) (all_c (N _ (.tail _ (.tail _ (.head _)))) (fun p hp => N p (.tail _ (.tail _ (.tail _ (List.mem_append_right _ (List.mem_append_right _ hp))))))))))
theorem if_len {fs : List Str} {v : Str} {c : Prop} [Decidable c] : (if c then fs ++ [v] else fs).length ≤ fs.length + 1 ∧ (if c then fs else fs ++ [v]).length ≤ fs.length + 1 := by
  constructor
  · split
    · rw [List.length_append]; exact Nat.le_refl _
    · exact Nat.le_succ _
  · split
    · exact Nat.le_succ _
    · rw [List.length_append]; exact Nat.le_refl _
def Nd5 (fl gl L : Nat) (xt : List (Addr × Obj)) : Prop := fl ≠ gl ∧ fl ≠ 234 ∧ gl ≠ 234 ∧ fl ≠ L + 2 ∧ fl ≠ L + 3 ∧ gl ≠ L + 2 ∧ gl ≠ L + 3 ∧ 234 ≠ L + 2 ∧ 234 ≠ L + 3 ∧ ∀ p ∈ xt, @Ne Nat p.1 fl ∧ @Ne Nat p.1 gl ∧ @Ne Nat p.1 234 ∧ @Ne Nat p.1 (L + 2) ∧ @Ne Nat p.1 (L + 3)
theorem ex5_swap {fl gl L : Addr} {fv gv fv' gv' : List Value} {n1 n2 n1' n2' : Nat} {ps ps' : Array Value} {c2 c3 c2' c3' : Obj} {xt : List (Addr × Obj)} : ∀ q ∈ ext5 fl gl fv' gv' n1' n2' ps' L c2' c3' xt, ∃ p ∈ ext5 fl gl fv gv n1 n2 ps L c2 c3 xt, p.1 = q.1 := fun q hq => by
  revert q hq
  exact all_c (⟨_, .head _, rfl⟩) (all_c (⟨_, .tail _ (.head _), rfl⟩) (all_c (⟨_, .tail _ (.tail _ (.head _)), rfl⟩) (all_c (⟨_, .tail _ (.tail _ (.tail _ (.head _))), rfl⟩) (all_c (⟨_, .tail _ (.tail _ (.tail _ (.tail _ (.head _)))), rfl⟩) (fun q hq => ⟨q, .tail _ (.tail _ (.tail _ (.tail _ (.tail _ hq)))), rfl⟩)))))
noncomputable abbrev ps1 (c' : Addr) : Array Value := #[rawInt mcPos.line, rawInt mcPos.col, .ref c']
/-- the ledger without the table -/
noncomputable abbrev no234 (fl gl : Addr) (fv gv : List Value) (n1 n2 : Nat) (L : Addr) (c2 c3 : Obj) (xt R : List (Addr × Obj)) : List (Addr × Obj) := (fl, W.listOf fv.toArray n1) :: (gl, W.listOf gv.toArray n2) :: (L + 2, c2) :: (L + 3, c3) :: (xt ++ R)
theorem make_in {P : Params} {px pdx pl fl gl : Addr} {od : Obj} {ents : List Ent} {k n1 n2 : Nat} {fv gv : List Value} {ps : Array Value} {c2 c3 : Obj} {xt R : List (Addr × Obj)} {fs gs as : List Str} : ∀ q ∈ dirL px pdx pl od ents k ++ no234 fl gl fv gv n1 n2 L c2 c3 xt R, q ∈ dirL px pdx pl od ents k ++ (ext5 fl gl fv gv n1 n2 ps L c2 c3 xt ++ R) := fun q hq => by
  revert q hq
  refine all_a (fun q hq => List.mem_append_left _ hq) ?_
  exact all_c (List.mem_append_right _ (.head _)) (all_c (List.mem_append_right _ (.tail _ (.head _))) (all_c (List.mem_append_right _ (.tail _ (.tail _ (.tail _ (.head _))))) (all_c (List.mem_append_right _ (.tail _ (.tail _ (.tail _ (.tail _ (.head _)))))) (fun q hq => List.mem_append_right _ (.tail _ (.tail _ (.tail _ (.tail _ (.tail _ hq)))))))))
theorem make_ne {P : Params} {px pdx pl fl gl : Addr} {od : Obj} {ents : List Ent} {k n1 n2 : Nat} {fv gv : List Value} {ps : Array Value} {c2 c3 : Obj} {xt R : List (Addr × Obj)} {fs gs as : List Str} (d : DirSt P px pdx pl od ents (ext5 fl gl fv gv n1 n2 ps L c2 c3 xt) R fs gs as) (nd : Nd5 fl gl L xt) : ∀ q ∈ dirL px pdx pl od ents k ++ no234 fl gl fv gv n1 n2 L c2 c3 xt R, q.1 ≠ 234 := fun q hq => by
  obtain ⟨n1, n2, n3, n4, n5, n6, n7, n8, n9, nx⟩ := nd
  obtain ⟨x1, x2, x3⟩ := d.ofx (234, tabObj ps) (.tail _ (.tail _ (.head _)))
  revert q hq
  exact all_a (all_c (Ne.symm x1) (all_c (Ne.symm x2) (all_c (Ne.symm x3) all_n))) (all_c n2 (all_c n3 (all_c (Ne.symm n8) (all_c (Ne.symm n9) (all_a (fun q hq => (nx q hq).2.2.1) (fun q hq => d.ap (234, tabObj ps) (.tail _ (.tail _ (.head _))) q hq))))))
theorem make_led {h : Heap} {px pdx pl fl gl c' : Addr} {od oc : Obj} {ents : List Ent} {k n1 n2 : Nat} {fv gv : List Value} {c2 c3 : Obj} {xt R : List (Addr × Obj)} (N : News h₀ L h ((234, tabObj (ps1 c')) :: (c', oc) :: (dirL px pdx pl od ents k ++ no234 fl gl fv gv n1 n2 L c2 c3 xt R))) : News h₀ L h (dirL px pdx pl od ents k ++ (ext5 fl gl fv gv n1 n2 (ps1 c') L c2 c3 xt ++ ((c', oc) :: R))) := fun p hp => by
  revert p hp
  exact all_a (fun p hp => N p (.tail _ (.tail _ (List.mem_append_left _ hp)))) (all_c (N _ (.tail _ (.tail _ (List.mem_append_right _ (.head _))))) (all_c (N _ (.tail _ (.tail _ (List.mem_append_right _ (.tail _ (.head _)))))) (all_c (N _ (.head _)) (all_c (N _ (.tail _ (.tail _ (List.mem_append_right _ (.tail _ (.tail _ (.head _))))))) (all_c (N _ (.tail _ (.tail _ (List.mem_append_right _ (.tail _ (.tail _ (.tail _ (.head _)))))))) (all_a (fun p hp => N p (.tail _ (.tail _ (List.mem_append_right _ (.tail _ (.tail _ (.tail _ (.tail _ (List.mem_append_left _ hp))))))))) (all_c (N _ (.tail _ (.head _))) (fun p hp => N p (.tail _ (.tail _ (List.mem_append_right _ (.tail _ (.tail _ (.tail _ (.tail _ (List.mem_append_right _ hp))))))))))))))))
theorem make_dir {P : Params} {px pdx pl fl gl c' : Addr} {od oc : Obj} {ents : List Ent} {k n1 n2 : Nat} {fv gv : List Value} {ps : Array Value} {c2 c3 : Obj} {xt R : List (Addr × Obj)} {fs gs as : List Str} (d : DirSt P px pdx pl od ents (ext5 fl gl fv gv n1 n2 ps L c2 c3 xt) R fs gs as) (hps : TabOk R ps) (hc : c' ≠ 234)
    (hor : (∀ q ∈ dirL px pdx pl od ents k ++ no234 fl gl fv gv n1 n2 L c2 c3 xt R, q.1 < c') ∨ ((c', oc) ∈ dirL px pdx pl od ents k ++ no234 fl gl fv gv n1 n2 L c2 c3 xt R ∧ ps = ps1 c')) : DirSt P px pdx pl od ents (ext5 fl gl fv gv n1 n2 (ps1 c') L c2 c3 xt) ((c', oc) :: R) fs gs as := by
  have d' := d.swap (ext' := ext5 fl gl fv gv n1 n2 (ps1 c') L c2 c3 xt) ex5_swap
  rcases hor with h | ⟨_, e⟩
  · refine d'.cons ⟨Ne.symm (Nat.ne_of_lt (h _ (List.mem_append_left _ (.head _)))), Ne.symm (Nat.ne_of_lt (h _ (List.mem_append_left _ (.tail _ (.head _))))), Ne.symm (Nat.ne_of_lt (h _ (List.mem_append_left _ (.tail _ (.tail _ (.head _))))))⟩ fun p hp => ?_
    revert p hp
    exact all_c (Ne.symm (Nat.ne_of_lt (h _ (List.mem_append_right _ (.head _))))) (all_c (Ne.symm (Nat.ne_of_lt (h _ (List.mem_append_right _ (.tail _ (.head _)))))) (all_c hc (all_c (Ne.symm (Nat.ne_of_lt (h _ (List.mem_append_right _ (.tail _ (.tail _ (.head _))))))) (all_c (Ne.symm (Nat.ne_of_lt (h _ (List.mem_append_right _ (.tail _ (.tail _ (.tail _ (.head _)))))))) (fun p hp => Ne.symm (Nat.ne_of_lt (h p (List.mem_append_right _ (.tail _ (.tail _ (.tail _ (.tail _ (List.mem_append_left _ hp)))))))))))))
  · rcases hps with e0 | ⟨c0, oc0, vs, t, e0, hm, _⟩
    · rw [e0] at e
      exact absurd (congrArg Array.size e) (show ¬ (0 : Nat) = 3 by decide)
    · have e1 : ps1 c0 = ps1 c' := e0.symm.trans e
      have e2 : c0 = c' := by
        have := congrArg (fun a : Array Value => a[2]?) e1
        exact Value.ref.inj (Option.some.inj this)
      rw [e2] at hm
      exact d'.cons (d.off _ hm) fun p hp => d'.ap p hp _ hm
theorem DirSt.fresh' {P : Params} {px pdx pl a : Addr} {od o : Obj} {ents : List Ent} {k : Nat} {ext R R0 : List (Addr × Obj)} {fs gs as : List Str} (d : DirSt P px pdx pl od ents ext R fs gs as) (h : ∀ p ∈ dirL px pdx pl od ents k ++ (ext ++ R0), @LT.lt Nat _ p.1 a) : DirSt P px pdx pl od ents ext ((a, o) :: R) fs gs as :=
  d.cons ⟨Ne.symm (Nat.ne_of_lt (h _ (List.mem_append_left _ (.head _)))), Ne.symm (Nat.ne_of_lt (h _ (List.mem_append_left _ (.tail _ (.head _))))), Ne.symm (Nat.ne_of_lt (h _ (List.mem_append_left _ (.tail _ (.tail _ (.head _))))))⟩ fun p hp => Ne.symm (Nat.ne_of_lt (h p (List.mem_append_right _ (List.mem_append_left _ hp))))
/-- the two lists ahead of the ledger, and back -/
theorem two_out {h : Heap} {px pdx pl fl gl : Addr} {od : Obj} {ents : List Ent} {k n1 n2 : Nat} {fv gv : List Value} {ps : Array Value} {c2 c3 : Obj} {xt R : List (Addr × Obj)} (N : News h₀ L h (dirL px pdx pl od ents k ++ (ext5 fl gl fv gv n1 n2 ps L c2 c3 xt ++ R))) : News h₀ L h ((fl, W.listOf fv.toArray n1) :: (gl, W.listOf gv.toArray n2) :: (dirL px pdx pl od ents k ++ (((234, tabObj ps) :: (L + 2, c2) :: (L + 3, c3) :: xt) ++ R))) := fun p hp => by
  revert p hp
  exact all_c (N _ (List.mem_append_right _ (.head _))) (all_c (N _ (List.mem_append_right _ (.tail _ (.head _)))) (all_a (fun p hp => N p (List.mem_append_left _ hp)) (fun p hp => N p (List.mem_append_right _ (.tail _ (.tail _ hp))))))
theorem two_in {h : Heap} {px pdx pl fl gl : Addr} {od : Obj} {ents : List Ent} {k n1 n2 : Nat} {fv gv : List Value} {ps : Array Value} {c2 c3 : Obj} {xt R : List (Addr × Obj)} (N : News h₀ L h ((fl, W.listOf fv.toArray n1) :: (gl, W.listOf gv.toArray n2) :: (dirL px pdx pl od ents k ++ (((234, tabObj ps) :: (L + 2, c2) :: (L + 3, c3) :: xt) ++ R)))) : News h₀ L h (dirL px pdx pl od ents k ++ (ext5 fl gl fv gv n1 n2 ps L c2 c3 xt ++ R)) := fun p hp => by
  revert p hp
  exact all_a (fun p hp => N p (.tail _ (.tail _ (List.mem_append_left _ hp)))) (all_c (N _ (.head _)) (all_c (N _ (.tail _ (.head _))) (fun p hp => N p (.tail _ (.tail _ (List.mem_append_right _ hp))))))
theorem two_off {P : Params} {px pdx pl fl gl : Addr} {od : Obj} {ents : List Ent} {k n1 n2 : Nat} {fv gv : List Value} {ps : Array Value} {c2 c3 : Obj} {xt R : List (Addr × Obj)} {fs gs as : List Str} (d : DirSt P px pdx pl od ents (ext5 fl gl fv gv n1 n2 ps L c2 c3 xt) R fs gs as) (nd : Nd5 fl gl L xt) : ∀ p ∈ dirL px pdx pl od ents k ++ (((234, tabObj ps) :: (L + 2, c2) :: (L + 3, c3) :: xt) ++ R), p.1 ≠ fl ∧ p.1 ≠ gl := fun p hp => by
  obtain ⟨n1, n2, n3, n4, n5, n6, n7, n8, n9, nx⟩ := nd
  obtain ⟨x1, x2, x3⟩ := d.ofx (fl, _) (.head _)
  obtain ⟨y1, y2, y3⟩ := d.ofx (gl, _) (.tail _ (.head _))
  revert p hp
  exact all_a (all_c (⟨Ne.symm x1, Ne.symm y1⟩) (all_c (⟨Ne.symm x2, Ne.symm y2⟩) (all_c (⟨Ne.symm x3, Ne.symm y3⟩) all_n))) (all_c (⟨Ne.symm n2, Ne.symm n3⟩) (all_c (⟨Ne.symm n4, Ne.symm n6⟩) (all_c (⟨Ne.symm n5, Ne.symm n7⟩) (all_a (fun p hp => ⟨(nx p hp).1, (nx p hp).2.1⟩) (fun p hp => ⟨d.ap (fl, _) (.head _) p hp, d.ap (gl, _) (.tail _ (.head _)) p hp⟩)))))
theorem g16_turn {QF : Flow → Shared → Prop} {fa cd : Addr} {px pdx pl fl gl : Addr} {od c2 c3 : Obj} {ents : List Ent} {k n1 n2 : Nat} {fv gv : List Value} {ps : Array Value} {xt R : List (Addr × Obj)} {fs gs as : List Str} {x b y : Str} {tx tb ty tm : Tok} {mk : Int} (sf : StrsAre fv fs) (sg : StrsAre gv gs) (zf : fs.length ≤ 25) (zg : gs.length ≤ 25) (hz : ents.length ≤ 29) (d : DirSt w.params px pdx pl od ents (ext5 fl gl fv gv n1 n2 ps L c2 c3 xt) R fs gs as) (nd : Nd5 fl gl L xt) (hps : TabOk R ps) (h2 : c2.data = .cell (some (.str b tb))) (h3 : c3.data = .cell (some (.str y ty))) (hx : x.length ≤ 21) (ha : Asc x) (hp : PlainOf x b y) (hB : mB (Mine.T x) ≠ []) (hm : mk = 16 ∨ mk = 32) (l_text : m (Str.ofString "text") = some (.str x tx)) (l_mark : m (Str.ofString "mark") = some (.int mk tm)) (l_parent : m (Str.ofString "parent") = some (.ref px)) (l_folders : m (Str.ofString "folders") = some (.ref fl)) (l_files : m (Str.ofString "files") = some (.ref gl)) (B : Below A₀ h₀ [] h₀) (F : Fr h₀ L s.heap m) (X : (KK w.params).In h₀) (N : News h₀ L s.heap (dirL px pdx pl od ents k ++ ((ext5 fl gl fv gv n1 n2 ps L c2 c3 xt) ++ R))) (T : Top VW LO mean mg mb h₀) (hd : dp + 100 < recursionLimit) (hu : un + 1000 < cLine)
    (ret : ∀ m' h' tk' od' (ents' : List Ent) k' fv' n1' fs' gv' n2' gs' ps' R', (∀ p ∈ R, p ∈ R') → StrsAre fv' fs' → StrsAre gv' gs' → fs'.length ≤ fs.length + 1 → gs'.length ≤ gs.length + 1 → ents'.length ≤ ents.length + 1 → DirSt w.params px pdx pl od' ents' (ext5 fl gl fv' gv' n1' n2' ps' L c2 c3 xt) R' fs' gs' as → TabOk R' ps' → Keep [Str.ofString "told", Str.ofString "taken", Str.ofString "due", Str.ofString "k", Str.ofString "short"] m m' → Fr h₀ L h' m' → News h₀ L h' (dirL px pdx pl od' ents' k' ++ (ext5 fl gl fv' gv' n1' n2' ps' L c2 c3 xt ++ R')) → QF .next { s with heap := h', toks := tk' }) :
    wpC (model PR w) (LA dp un L fa cd) (execs a16B (LE L fa cd)) QF s := by
  have g := good_parts ha hB
  have lb : b.length ≤ 8 := by rw [← T_len, hp.tb]; exact g.b8
  have ly : y.length ≤ 8 := by rw [← T_len, hp.ty]; exact Nat.le_trans (dotE_len g) (by decide)
  show wpC _ _ (execs [m0, m1, m2, m3, m4, m5, m6, m7, m8, m9] _) _ _
  refine wpC_execs_cons (wpC_of (g16_make (ps := ps) (rest0 := dirL px pdx pl od ents k ++ no234 fl gl fv gv n1 n2 L c2 c3 xt R) d.ok (fun p hp => List.mem_append_left _ hp) (fun e he => (d.es e he).mono fun p hp => List.mem_append_right _ (List.mem_append_right _ hp)) (List.mem_append_right _ (.tail _ (.tail _ (.head _)))) (make_in (P := w.params) (fs := fs) (gs := gs) (as := as)) (make_ne d nd) (hps.mono fun p hp => List.mem_append_right _ (.tail _ (.tail _ (.tail _ (.tail _ (List.mem_append_right _ hp)))))) hx ha hB hz l_text l_parent B F X N T hd hu (fun q1 h4 tk4 v tv j c' oc vs t₁ Tv tr nt lj e1 e2 hc hor kp1 lt1 F1 N1 => ?_)))
  rw [d.tl.shown] at tr nt
  have N1' := make_led N1
  have d1 := make_dir d hps hc hor
  have tb1 : TabOk ((c', oc) :: R) (ps1 c') := .inr ⟨c', oc, vs, t₁, rfl, .head _, e1, e2⟩
  dsimp only
  refine wpC_execs_cons (wpC_of (g16_taken (s := ⟨_, _, _, _, _⟩) (List.mem_append_right _ (.head _)) (List.mem_append_right _ (.tail _ (.head _))) sf sg (by omega) (by omega) (kp1.at l_folders) (kp1.at l_files) B F1 X N1' T hd hu (fun q2 h5 tk5 D zs n9 zst ltD kp2 lt2 F2 N2 => ?_)))
  dsimp only
  refine wpC_execs_cons (wpC_of (g16_due (s := ⟨_, _, _, _, _⟩) h2 h3 (.tail _ (List.mem_append_right _ (.tail _ (.tail _ (.tail _ (.head _)))))) (.tail _ (List.mem_append_right _ (.tail _ (.tail _ (.tail _ (.tail _ (.head _))))))) lb ly B F2 X N2 T hd hu (fun q3 h6 tk6 td kp3 lt3 F3 N3 => ?_)))
  dsimp only
  refine wpC_execs_cons (wpC_of (g16_search (s := ⟨_, _, _, _, _⟩) h2 h3 (.tail _ (List.mem_append_right _ (.tail _ (.tail _ (.tail _ (.head _)))))) (.tail _ (List.mem_append_right _ (.tail _ (.tail _ (.tail _ (.tail _ (.head _))))))) g hp.tb hp.ty (.head _) zst tr nt lj (due0 hp.tb hp.ty) lt3 (kp3.at lt2) B F3 X N3 T hd hu (fun q4 h7 tk7 dn tdn due kp4 lt4 F4 N4 => ?_)))
  dsimp only
  refine wpC_execs_cons (wpC_of (g16_judge (s := ⟨_, _, _, _, _⟩) h2 h3 (.tail _ (List.mem_append_right _ (.tail _ (.tail _ (.tail _ (.head _)))))) (.tail _ (List.mem_append_right _ (.tail _ (.tail _ (.tail _ (.tail _ (.head _))))))) g hp.tb hp.ty (.head _) zst nt lj Tv due lt4 (kp4.at (kp3.at (kp2.at lt1))) (kp4.at (kp3.at lt2)) B F4 X N4 T hd hu (fun h8 tk8 F5 N5 => ?_)))
  dsimp only
  have N5' := led_cons (ext := ext5 fl gl fv gv n1 n2 (ps1 c') L c2 c3 xt) (R := (c', oc) :: R) N5
  have d2 := d1.fresh (o := W.listOf zs.toArray n9) ltD
  refine wpC_execs_cons (wpC_of (g16_short (s := ⟨_, _, _, _, _⟩) B F5 X N5' T hd hu (fun q6 h9 tk9 e8 d8 v1 v2 v3 v4 ltS l2 kp6 lt6 F6 N6 => ?_)))
  dsimp only
  have gj := mkB_good g j (by omega)
  have hvn : Mine.T v = nm (mkB (mB (Mine.T x)) j) (mE (Mine.T x)) := Tv
  refine wpC_execs_cons (g16_try (s := ⟨_, _, _, _, _⟩) (conf_good gj hvn) (fun a' b' sp => ?_) ltS l2 lt6 (kp6.at (kp4.at (kp3.at (kp2.at lt1)))) B F6 X N6 T hd hu (fun a' b' sp ba v5 v6 h10 tk10 F7 N7 lba => ?_))
  · have e := padT_T gj hvn sp
    refine ⟨by rw [← T_len, e]; exact pad_len gj, Array.all_eq_true_iff_forall_mem.mpr fun c hc => decide_eq_true ?_⟩
    have h1 : c ∈ Mine.T (padT a' b') := Array.mem_toList_iff.mpr hc
    rw [e] at h1
    exact pad_ascii gj c h1
  have gb := ssn_good gj hvn sp
  dsimp only
  have lt8 : ∀ p ∈ dirL px pdx pl od ents k ++ (ext5 fl gl fv gv n1 n2 (ps1 c') L c2 c3 xt ++ ((D, W.listOf zs.toArray n9) :: (c', oc) :: R)), @LT.lt Nat _ p.1 e8 := fun p hp => Nat.lt_trans (ltS p hp) l2
  have lt9 : ∀ p ∈ dirL px pdx pl od ents k ++ (ext5 fl gl fv gv n1 n2 (ps1 c') L c2 c3 xt ++ ((D, W.listOf zs.toArray n9) :: (c', oc) :: R)), @LT.lt Nat _ p.1 ba := fun p hp => Nat.lt_trans (lt8 p hp) lba
  have d3 := ((d2.fresh' (o := e8Dict w.params v5 v2 v6 v4 ba) ltS).fresh' (o := instObj 243 d8) lt8).fresh' (o := baObj (encB (padT a' b')) 0) lt9
  have N7' := led_three (ext := ext5 fl gl fv gv n1 n2 (ps1 c') L c2 c3 xt) (R := (D, W.listOf zs.toArray n9) :: (c', oc) :: R) N7
  refine wpC_execs_cons (wpC_of (g16_back (s := ⟨_, _, _, _, _⟩) (List.mem_append_right _ (List.mem_append_right _ (.tail _ (.head _)))) (List.mem_append_right _ (List.mem_append_right _ (.tail _ (.tail _ (.head _))))) (List.mem_append_right _ (List.mem_append_right _ (.head _))) gb lt6 (kp6.at (kp4.at (kp3.at (kp2.at lt1)))) B F7 X N7' T hd hu (fun h11 tk11 F8 N8 => ?_)))
  dsimp only
  have tells : ∀ ex, Tells (ents ++ [⟨ex, encB (padT a' b'), mk⟩]) (if mk = 16 then fs ++ [v] else fs) (if mk = 16 then gs else gs ++ [v]) as := fun ex => by
    rcases hm with rfl | rfl
    · exact d.tl.folder (kind_dir gj hvn gb.nm rfl) gb.nm
    · exact d.tl.file (kind_file gj hvn gb.nm rfl) gb.nm
  refine wpC_execs_cons (g16_add (s := ⟨_, _, _, _, _⟩) gb hm d3 (by omega) tells (.tail _ (.head _)) (.tail _ (.tail _ (.head _))) (.head _) lt6 (kp6.at (kp4.at (kp3.at (kp2.at (kp1.at l_mark))))) (kp6.at (kp4.at (kp3.at (kp2.at (kp1.at l_parent))))) B F8 X N8 T hd hu (fun ex od' nw h12 tk12 d4 F9 N9 => ?_))
  dsimp only
  refine wpC_execs_cons (wpC_of (g16_app (s := ⟨_, _, _, _, _⟩) sf sg (by omega) (by omega) hm nd.1 (fun p hp => (two_off d4 nd p hp).1) (fun p hp => (two_off d4 nd p hp).2) (kp6.at (kp4.at (kp3.at (kp2.at (kp1.at l_folders))))) (kp6.at (kp4.at (kp3.at (kp2.at (kp1.at l_files))))) (kp6.at (kp4.at (kp3.at (kp2.at lt1)))) (kp6.at (kp4.at (kp3.at (kp2.at (kp1.at l_mark))))) B F9 X (two_out N9) T hd hu (fun h13 tk13 fv' n1' gv' n2' sf' sg' F10 N10 => ?_)))
  dsimp only
  refine wpC_execs_nil (ret q6 h13 _ od' _ (k + 1) fv' n1' _ gv' n2' _ (ps1 c') (nw ++ _) (fun p hp => List.mem_append_right _ (.tail _ (.tail _ (.tail _ (.tail _ (.tail _ hp)))))) sf' sg' if_len.1 if_len.2 (by rw [List.length_append]; exact Nat.le_refl _) (d4.swap ex5_swap) (tb1.mono fun p hp => List.mem_append_right _ (.tail _ (.tail _ (.tail _ (.tail _ hp))))) ?_ F10 (two_in N10))
  exact ((((kp1.mono (by decide)).trans (kp2.mono (by decide))).trans (kp3.mono (by decide))).trans (kp4.mono (by decide))).trans (kp6.mono (by decide))
theorem assign_in {h : Heap} {px pdx pl fl gl I : Addr} {od oI : Obj} {ents : List Ent} {k n1 n2 : Nat} {fv gv : List Value} {ps : Array Value} {c2 c3 : Obj} {R : List (Addr × Obj)} (N : News h₀ L h ((I, oI) :: (dirL px pdx pl od ents k ++ (ext5 fl gl fv gv n1 n2 ps L c2 c3 [] ++ R)))) : News h₀ L h ((L + 2, c2) :: (L + 3, c3) :: (dirL px pdx pl od ents k ++ ((fl, W.listOf fv.toArray n1) :: (gl, W.listOf gv.toArray n2) :: (234, tabObj ps) :: (I, oI) :: R))) := fun p hp => by
  revert p hp
  exact all_c (N _ (.tail _ (List.mem_append_right _ (.tail _ (.tail _ (.tail _ (.head _))))))) (all_c (N _ (.tail _ (List.mem_append_right _ (.tail _ (.tail _ (.tail _ (.tail _ (.head _)))))))) (all_a (fun p hp => N p (.tail _ (List.mem_append_left _ hp))) (all_c (N _ (.tail _ (List.mem_append_right _ (.head _)))) (all_c (N _ (.tail _ (List.mem_append_right _ (.tail _ (.head _))))) (all_c (N _ (.tail _ (List.mem_append_right _ (.tail _ (.tail _ (.head _)))))) (all_c (N _ (.head _)) (fun p hp => N p (.tail _ (List.mem_append_right _ (.tail _ (.tail _ (.tail _ (.tail _ (.tail _ hp))))))))))))))
theorem assign_out {h : Heap} {px pdx pl fl gl I : Addr} {od oI : Obj} {ents : List Ent} {k n1 n2 : Nat} {fv gv : List Value} {ps : Array Value} {c2 c3 : Obj} {R : List (Addr × Obj)} (N : News h₀ L h ((L + 2, c2) :: (L + 3, c3) :: (dirL px pdx pl od ents k ++ ((fl, W.listOf fv.toArray n1) :: (gl, W.listOf gv.toArray n2) :: (234, tabObj ps) :: (I, oI) :: R)))) : News h₀ L h (dirL px pdx pl od ents k ++ (ext5 fl gl fv gv n1 n2 ps L c2 c3 [(I, oI)] ++ R)) := fun p hp => by
  revert p hp
  exact all_a (fun p hp => N p (.tail _ (.tail _ (List.mem_append_left _ hp)))) (all_c (N _ (.tail _ (.tail _ (List.mem_append_right _ (.head _))))) (all_c (N _ (.tail _ (.tail _ (List.mem_append_right _ (.tail _ (.head _)))))) (all_c (N _ (.tail _ (.tail _ (List.mem_append_right _ (.tail _ (.tail _ (.head _))))))) (all_c (N _ (.head _)) (all_c (N _ (.tail _ (.head _))) (fun p hp => N p (.tail _ (.tail _ (List.mem_append_right _ (.tail _ (.tail _ (.tail _ hp))))))))))))
theorem turn_out {h : Heap} {px pdx pl fl gl I : Addr} {od oI : Obj} {ents : List Ent} {k n1 n2 : Nat} {fv gv : List Value} {ps : Array Value} {c2 c3 : Obj} {R : List (Addr × Obj)} (N : News h₀ L h (dirL px pdx pl od ents k ++ (ext5 fl gl fv gv n1 n2 ps L c2 c3 [(I, oI)] ++ R))) : News h₀ L h ((I, oI) :: (dirL px pdx pl od ents k ++ (ext5 fl gl fv gv n1 n2 ps L c2 c3 [] ++ R))) := fun p hp => by
  revert p hp
  exact all_c (N _ (List.mem_append_right _ (.tail _ (.tail _ (.tail _ (.tail _ (.tail _ (.head _)))))))) (all_a (fun p hp => N p (List.mem_append_left _ hp)) (all_c (N _ (List.mem_append_right _ (.head _))) (all_c (N _ (List.mem_append_right _ (.tail _ (.head _)))) (all_c (N _ (List.mem_append_right _ (.tail _ (.tail _ (.head _))))) (all_c (N _ (List.mem_append_right _ (.tail _ (.tail _ (.tail _ (.head _)))))) (all_c (N _ (List.mem_append_right _ (.tail _ (.tail _ (.tail _ (.tail _ (.head _))))))) (fun p hp => N p (List.mem_append_right _ (.tail _ (.tail _ (.tail _ (.tail _ (.tail _ (.tail _ hp))))))))))))))
theorem cells_off {P : Params} {px pdx pl fl gl I : Addr} {od oI : Obj} {ents : List Ent} {k n1 n2 : Nat} {fv gv : List Value} {ps : Array Value} {c2 c3 : Obj} {R : List (Addr × Obj)} {fs gs as : List Str} (d : DirSt P px pdx pl od ents (ext5 fl gl fv gv n1 n2 ps L c2 c3 []) R fs gs as) (nd : Nd5 fl gl L []) (hI : ∀ p ∈ dirL px pdx pl od ents k ++ (ext5 fl gl fv gv n1 n2 ps L c2 c3 [] ++ R), p.1 ≠ I) : ∀ p ∈ dirL px pdx pl od ents k ++ ((fl, W.listOf fv.toArray n1) :: (gl, W.listOf gv.toArray n2) :: (234, tabObj ps) :: (I, oI) :: R), p.1 ≠ L + 2 ∧ p.1 ≠ L + 3 := fun p hp => by
  obtain ⟨n1, n2, n3, n4, n5, n6, n7, n8, n9, _⟩ := nd
  obtain ⟨x1, x2, x3⟩ := d.ofx (L + 2, c2) (.tail _ (.tail _ (.tail _ (.head _))))
  obtain ⟨y1, y2, y3⟩ := d.ofx (L + 3, c3) (.tail _ (.tail _ (.tail _ (.tail _ (.head _)))))
  revert p hp
  exact all_a (all_c (⟨Ne.symm x1, Ne.symm y1⟩) (all_c (⟨Ne.symm x2, Ne.symm y2⟩) (all_c (⟨Ne.symm x3, Ne.symm y3⟩) all_n))) (all_c (⟨n4, n5⟩) (all_c (⟨n6, n7⟩) (all_c (⟨n8, n9⟩) (all_c (⟨Ne.symm (hI (L + 2, c2) (List.mem_append_right _ (.tail _ (.tail _ (.tail _ (.head _)))))), Ne.symm (hI (L + 3, c3) (List.mem_append_right _ (.tail _ (.tail _ (.tail _ (.tail _ (.head _)))))))⟩) (fun p hp => ⟨d.ap (L + 2, c2) (.tail _ (.tail _ (.tail _ (.head _)))) p hp, d.ap (L + 3, c3) (.tail _ (.tail _ (.tail _ (.tail _ (.head _))))) p hp⟩)))))
theorem turn_dir {P : Params} {px pdx pl fl gl I : Addr} {od oI : Obj} {ents : List Ent} {k n1 n2 : Nat} {fv gv : List Value} {ps : Array Value} {c2 c3 c2' c3' : Obj} {R : List (Addr × Obj)} {fs gs as : List Str} (d : DirSt P px pdx pl od ents (ext5 fl gl fv gv n1 n2 ps L c2 c3 []) R fs gs as) (hI : ∀ p ∈ dirL px pdx pl od ents k ++ (ext5 fl gl fv gv n1 n2 ps L c2 c3 [] ++ R), p.1 ≠ I) : DirSt P px pdx pl od ents (ext5 fl gl fv gv n1 n2 ps L c2' c3' [(I, oI)]) R fs gs as := by
  have d' := d.swap (ext' := ext5 fl gl fv gv n1 n2 ps L c2' c3' []) ex5_swap
  have hin : ∀ q ∈ ext5 fl gl fv gv n1 n2 ps L c2' c3' [(I, oI)], q ∈ ext5 fl gl fv gv n1 n2 ps L c2' c3' [] ∨ q = (I, oI) :=
    all_c (.inl (.head _)) (all_c (.inl (.tail _ (.head _))) (all_c (.inl (.tail _ (.tail _ (.head _)))) (all_c (.inl (.tail _ (.tail _ (.tail _ (.head _))))) (all_c (.inl (.tail _ (.tail _ (.tail _ (.tail _ (.head _)))))) (fun q hq => .inr (List.mem_singleton.mp hq))))))
  refine ⟨d.ok, d.off, fun q hq => ?_, fun p hp q hq => ?_, d.es, d.tl⟩
  · rcases hin q hq with hq | rfl
    · exact d'.ofx q hq
    · exact ⟨Ne.symm (hI _ (List.mem_append_left _ (.head _))), Ne.symm (hI _ (List.mem_append_left _ (.tail _ (.head _)))), Ne.symm (hI _ (List.mem_append_left _ (.tail _ (.tail _ (.head _)))))⟩
  · rcases hin p hp with hp | rfl
    · exact d'.ap p hp q hq
    · exact hI q (List.mem_append_right _ (List.mem_append_right _ hq))
theorem turn_nd {px pdx pl fl gl I : Addr} {od oI : Obj} {ents : List Ent} {k n1 n2 : Nat} {fv gv : List Value} {ps : Array Value} {c2 c3 : Obj} {R : List (Addr × Obj)} (nd : Nd5 fl gl L []) (hI : ∀ p ∈ dirL px pdx pl od ents k ++ (ext5 fl gl fv gv n1 n2 ps L c2 c3 [] ++ R), p.1 ≠ I) : Nd5 fl gl L [(I, oI)] := by
  obtain ⟨n1, n2, n3, n4, n5, n6, n7, n8, n9, _⟩ := nd
  refine ⟨n1, n2, n3, n4, n5, n6, n7, n8, n9, fun p hp => ?_⟩
  rw [List.mem_singleton.mp hp]
  exact ⟨Ne.symm (hI _ (List.mem_append_right _ (.head _))), Ne.symm (hI _ (List.mem_append_right _ (.tail _ (.head _)))), Ne.symm (hI _ (List.mem_append_right _ (.tail _ (.tail _ (.head _))))), Ne.symm (hI _ (List.mem_append_right _ (.tail _ (.tail _ (.tail _ (.head _)))))), Ne.symm (hI _ (List.mem_append_right _ (.tail _ (.tail _ (.tail _ (.tail _ (.head _)))))))⟩
theorem turn_off {P : Params} {px pdx pl fl gl I : Addr} {od oI : Obj} {ents : List Ent} {k n1 n2 : Nat} {fv gv : List Value} {ps : Array Value} {c2 c3 : Obj} {R : List (Addr × Obj)} {fs gs as : List Str} (d : DirSt P px pdx pl od ents (ext5 fl gl fv gv n1 n2 ps L c2 c3 [(I, oI)]) R fs gs as) (nd : Nd5 fl gl L [(I, oI)]) : ∀ p ∈ dirL px pdx pl od ents k ++ (ext5 fl gl fv gv n1 n2 ps L c2 c3 [] ++ R), p.1 ≠ I := fun p hp => by
  have mI : (I, oI) ∈ ext5 fl gl fv gv n1 n2 ps L c2 c3 [(I, oI)] := .tail _ (.tail _ (.tail _ (.tail _ (.tail _ (.head _)))))
  obtain ⟨x1, x2, x3⟩ := d.ofx _ mI
  obtain ⟨y1, y2, y3, y4, y5⟩ := nd.2.2.2.2.2.2.2.2.2 _ (List.mem_singleton.mpr rfl)
  revert p hp
  exact all_a (all_c (Ne.symm x1) (all_c (Ne.symm x2) (all_c (Ne.symm x3) all_n))) (all_c (Ne.symm y1) (all_c (Ne.symm y2) (all_c (Ne.symm y3) (all_c (Ne.symm y4) (all_c (Ne.symm y5) (fun p hp => d.ap _ mI p hp))))))
theorem g16_loop {QF : Flow → Shared → Prop} {fa cd : Addr} {px pdx pl fl gl wl : Addr} {od c2 c3 : Obj} {v2 v3 : Option Value} {ents : List Ent} {k n1 n2 kw : Nat} {fv gv ws : List Value} {ps : Array Value} {R : List (Addr × Obj)} {fs gs as : List Str} (sf : StrsAre fv fs) (sg : StrsAre gv gs) (zf : fs.length ≤ 16) (zg : gs.length ≤ 16) (hz : ents.length ≤ 20) (d : DirSt w.params px pdx pl od ents (ext5 fl gl fv gv n1 n2 ps L c2 c3 []) R fs gs as) (nd : Nd5 fl gl L []) (hps : TabOk R ps) (h2 : c2.data = .cell v2) (h3 : c3.data = .cell v3) (hwl : (wl, W.listOf ws.toArray kw) ∈ R) (hw5 : ws.length ≤ 5) (hw : ∀ v ∈ ws, WantV R v) (l_wanted : m (Str.ofString "wanted") = some (.ref wl)) (l_parent : m (Str.ofString "parent") = some (.ref px)) (l_folders : m (Str.ofString "folders") = some (.ref fl)) (l_files : m (Str.ofString "files") = some (.ref gl)) (B : Below A₀ h₀ [] h₀) (F : Fr h₀ L s.heap m) (X : (KK w.params).In h₀) (N : News h₀ L s.heap (dirL px pdx pl od ents k ++ ((ext5 fl gl fv gv n1 n2 ps L c2 c3 []) ++ R))) (T : Top VW LO mean mg mb h₀) (hd : dp + 100 < recursionLimit) (hu : un + 1000 < cLine)
    (ret : ∀ m' h' tk' od' (ents' : List Ent) k' fv' n1' fs' gv' n2' gs' ps' c2' c3' R', (∀ p ∈ R, p ∈ R') → StrsAre fv' fs' → StrsAre gv' gs' → fs'.length ≤ fs.length + 5 → gs'.length ≤ gs.length + 5 → ents'.length ≤ ents.length + 5 → DirSt w.params px pdx pl od' ents' (ext5 fl gl fv' gv' n1' n2' ps' L c2' c3' []) R' fs' gs' as → TabOk R' ps' → Keep [Str.ofString "told", Str.ofString "taken", Str.ofString "due", Str.ofString "k", Str.ofString "short", Str.ofString "text", Str.ofString "mark"] m m' → Fr h₀ L h' m' → News h₀ L h' (dirL px pdx pl od' ents' k' ++ ((ext5 fl gl fv' gv' n1' n2' ps' L c2' c3' []) ++ R')) → QF .next { s with heap := h', toks := tk' }) :
    wpC (model PR w) (LA dp un L fa cd) (exec a16 (LE L fa cd)) QF s := by
  have d0 : KtsDicts (([] : List Env).filterMap (·.frame)) h₀ := ktsDicts_nil
  dsimp only [a16, lit]
  refine For_LC (r := wl) (vs := ws) (k := kw) (fun i m₁ news₁ => ∃ od' ents' k' fv' n1' fs' gv' n2', ∃ gs' ps' c2' c3' R' v2' v3', news₁ = dirL px pdx pl od' ents' k' ++ ((ext5 fl gl fv' gv' n1' n2' ps' L c2' c3' []) ++ R') ∧ c2'.data = .cell v2' ∧ c3'.data = .cell v3' ∧ (∀ p ∈ R, p ∈ R') ∧ StrsAre fv' fs' ∧ StrsAre gv' gs' ∧ fs'.length ≤ fs.length + i ∧ gs'.length ≤ gs.length + i ∧ ents'.length ≤ ents.length + i ∧ DirSt w.params px pdx pl od' ents' (ext5 fl gl fv' gv' n1' n2' ps' L c2' c3' []) R' fs' gs' as ∧ TabOk R' ps' ∧ Keep [Str.ofString "told", Str.ofString "taken", Str.ofString "due", Str.ofString "k", Str.ofString "short", Str.ofString "text", Str.ofString "mark"] m m₁)
    (fun Q hq => ?_) rfl F N (List.mem_append_right _ (List.mem_append_right _ hwl)) (xi8 od ents k fv n1 fs gv n2 (xi7 gs ps c2 c3 R v2 v3 ⟨rfl, h2, h3, (fun _ h => h), sf, sg, Nat.le_refl _, Nat.le_refl _, Nat.le_refl _, d, hps, Keep.of_eq rfl⟩)) (.inr ⟨_, _, _, rfl⟩) ?_ ?_ ?_
  · have e9 : fo [(Str.ofString "wanted", Value.ref wl)] m = m := fo_cons (by assumption) fo_nil
    have F' := F
    rw [← e9] at F'
    clear F
    k_steps
    all_goals (first | exact hq | skip)
  · intro i v I oI m₁ news₁ h tk hvi hJ off hr F' N'
    refine hideG fun Z hZ => ?_
    obtain ⟨⟨bb, rfl⟩, hJ⟩ := hJ
    refine ex8 hJ ?_
    clear hJ
    intro od' ents' k' fv' n1' fs' gv' n2' hJ
    refine ex7 hJ ?_
    clear hJ
    intro gs' ps' c2' c3' R' v2' v3' hJ
    refine an10 hJ ?_
    clear hJ
    intro e0 h2' h3' hR sf' sg' zf' zg' ze' hJ
    subst e0
    have d' := hJ.1
    have tb' := hJ.2.1
    have kp := hJ.2.2
    refine (hw _ (List.mem_of_getElem? hvi)).elim ?_
    intro t x b y mk t1 t2 t3 t4 e1 ht hx ha hp hB hm
    cases e1
    refine hZ ?_
    clear hZ Z
    have hi : i < 5 := Nat.lt_of_lt_of_le (List.getElem?_eq_some_iff.mp hvi).1 hw5
    have hI : ∀ p ∈ dirL px pdx pl od' ents' k' ++ ((ext5 fl gl fv' gv' n1' n2' ps' L c2' c3' []) ++ R'), p.1 ≠ I := off
    have co := cells_off (oI := oI) d' nd hI
    refine g16_assign (s := ⟨_, _, _, _, _⟩) (x := x) (b := b) (y := y) (mk := mk) h2' h3' (fun p hp => (co p hp).1) (fun p hp => (co p hp).2) (List.mem_append_right _ (.tail _ (.tail _ (.tail _ (.tail _ (hR _ ht)))))) B F' X (assign_in N') T hd hu (fun m2 h4 tk4 c24 c34 u1 u2 u3 u4 d24 d34 kp2 lt lm F4 N4 => ?_)
    have d4 := turn_dir (oI := oI) (c2' := c24) (c3' := c34) d' hI
    have nd4 := turn_nd (oI := oI) nd hI
    refine g16_turn (s := ⟨_, _, _, _, _⟩) (k := k') sf' sg' (le_in zf' zf (Nat.le_of_lt hi) (by decide)) (le_in zg' zg (Nat.le_of_lt hi) (by decide)) (le_in ze' hz (Nat.le_of_lt hi) (by decide)) d4 nd4 tb' d24 d34 hx ha hp hB hm lt lm (kp2.at (kp.at l_parent)) (kp2.at (kp.at l_folders)) (kp2.at (kp.at l_files)) B F4 X (assign_out N4) T hd hu (fun m5 h5 tk5 od5 ents5 k5 fv5 n15 fs5 gv5 n25 gs5 ps5 R5 hR5 sf5 sg5 zf5 zg5 ze5 d5 tb5 kp5 F5 N5 => ?_)
    refine .inl ⟨rfl, h5, tk5, m5, _, rfl, F5, turn_out N5, turn_off d5 nd4, List.mem_append_right _ (List.mem_append_right _ (hR5 _ (hR _ hwl))), xi8 od5 ents5 k5 fv5 n15 fs5 gv5 n25 (xi7 gs5 ps5 c24 c34 R5 _ _ ⟨rfl, d24, d34, (fun p hp => hR5 p (hR p hp)), sf5, sg5, le_up zf' zf5, le_up zg' zg5, le_up ze' ze5, ?_, tb5, ?_⟩)⟩
    · exact d5.swap fun q hq => by
        revert q hq
        exact all_c (⟨_, .head _, rfl⟩) (all_c (⟨_, .tail _ (.head _), rfl⟩) (all_c (⟨_, .tail _ (.tail _ (.head _)), rfl⟩) (all_c (⟨_, .tail _ (.tail _ (.tail _ (.head _))), rfl⟩) (all_c (⟨_, .tail _ (.tail _ (.tail _ (.tail _ (.head _)))), rfl⟩) all_n))))
    · exact (kp.trans (kp2.mono (by decide))).trans (kp5.mono (by decide))
  · intro h' tk m' news' F' N' hJ
    refine hideG fun Z hZ => ?_
    refine ex8 hJ ?_
    clear hJ
    intro od' ents' k' fv' n1' fs' gv' n2' hJ
    refine ex7 hJ ?_
    clear hJ
    intro gs' ps' c2' c3' R' v2' v3' hJ
    refine an10 hJ ?_
    clear hJ
    intro e0 h2' h3' hR sf' sg' zf' zg' ze' hJ
    subst e0
    have d' := hJ.1
    have tb' := hJ.2.1
    have kp := hJ.2.2
    refine hZ ?_
    clear hZ Z
    exact ret m' h' tk od' ents' k' fv' n1' fs' gv' n2' gs' ps' c2' c3' R' hR sf' sg' (Nat.le_trans zf' (Nat.add_le_add_left hw5 _)) (Nat.le_trans zg' (Nat.add_le_add_left hw5 _)) (Nat.le_trans ze' (Nat.add_le_add_left hw5 _)) d' tb' kp F' N'
  · intro v hv
    refine (hw v hv).elim ?_
    intro t x b y mk t1 t2 t3 t4 e1 _ _ _ _ _ _
    exact ⟨t, e1⟩
noncomputable abbrev a17H : List Stmt := lit (match a17 with | .Try _ [.ExceptHandler _ _ b _] _ _ _ => b | _ => []) _ (by conv => lhs; whnf)
theorem g17_held {QF : Flow → Shared → Prop} {fa cd px pl : Addr} {ents : List Ent} {k : Nat} {hdl : Option Value} (hdi : DirIn w.params news px pl) (hml : (pl, W.listOf (ents.map fun e => Value.ref e.x).toArray k) ∈ news) (he : ∀ e ∈ ents, EntOk w.params news e) (hn : ents.length ≤ 64) (hH : HMem hdl news) (l_parent : m (Str.ofString "parent") = some (.ref px)) (B : Below A₀ h₀ [] h₀) (F : Fr h₀ L s.heap m) (X : (KK w.params).In h₀) (N : News h₀ L s.heap news) (T : Top VW LO mean mg mb h₀) (hd : dp + 100 < recursionLimit) (hu : un + 1000 < cLine)
    (ret : ∀ m' h' tk' t di fi sp nt nd nf ns, Keep [Str.ofString "held"] m m' → m' (Str.ofString "held") = some (.ref t) → Fr h₀ L h' m' → News h₀ L h' ((t, { cls := .type "tuple", data := .seq #[.ref di, .ref fi, .ref sp] nt }) :: (sp, W.listOf (sel 2 ents).toArray ns) :: (fi, W.listOf (sel 1 ents).toArray nf) :: (di, W.listOf (sel 0 ents).toArray nd) :: news) → QF .next { s with heap := h', toks := tk' }) :
    wpAny (model PR w) (ktrH hdl dp un (some []) (Str.ofString "law") f27S L fa (.ref cd) (cl5 L) []) (execs a17H (LE L fa cd)) QF E s := by
  have sm42 : SMk 42 := trivial
  have d0 : KtsDicts (([] : List Env).filterMap (·.frame)) h₀ := ktsDicts_nil
  have e9 : fo [(Str.ofString "parent", Value.ref px)] m = m := fo_cons (by assumption) fo_nil
  have F' := F
  rw [← e9] at F'
  clear F
  refine hdi.elim ?_
  intro dx e8 par u1 u2 u3 u4 u5 u6 u7 u8 u9 u10 u11 u12 u13 u14 u15 u16 u17 u18 r1 r2 r3 r4 r5 r6 r7 r8 r9 r10 r11 r12 h1 h2
  dsimp only [a17H, lit]
  (k_with "call ref" => (first | ((have q9 : SMk 42 := (by with_reducible assumption)); clear q9; (first | (k_here; (with_reducible show wpAny _ _ (call (Value.ref 466) _ _) _ _ _); refine Stop.at ?_) | fail)) | fail))
  k_steps
  unfold Stop
  refine wpAny_call (m_entries B F' X N T (by rfl) (by omega) (by omega) hH hdi hml he ⟨hn⟩ (fun t di fi sp nt nd nf ns h9 tk9 F9 N9 => ?_))
  k_steps
  rename Fr h₀ L _ _ => F7
  rename News h₀ L _ _ => N7
  rw [e9] at F7
  exact ret _ _ _ t di fi sp nt nd nf ns ((Keep.of_eq rfl : Keep [Str.ofString "held"] m m).step (by decide)) (if_pos rfl) F7 N7
theorem g17_try {QF : Flow → Shared → Prop} {fa cd px pl wl t : Addr} {ents : List Ent} {k kw : Nat} {wr : List Value} {x b y : Str} {mk : Int} {t1 t2 t3 t4 : Tok} (hdi : DirIn w.params news px pl) (hml : (pl, W.listOf (ents.map fun e => Value.ref e.x).toArray k) ∈ news) (he : ∀ e ∈ ents, EntOk w.params news e) (hn : ents.length ≤ 64) (hwl : (wl, W.listOf (Value.ref t :: wr).toArray kw) ∈ news) (hwr : wr.length ≤ 8) (ht : (t, ({ cls := .type "tuple", data := .seq #[.str x t1, .str b t2, .str y t3, .int mk t4] 0 } : Obj)) ∈ news) (l_parent : m (Str.ofString "parent") = some (.ref px)) (l_wanted : m (Str.ofString "wanted") = some (.ref wl)) (B : Below A₀ h₀ [] h₀) (F : Fr h₀ L s.heap m) (X : (KK w.params).In h₀) (N : News h₀ L s.heap news) (T : Top VW LO mean mg mb h₀) (hd : dp + 100 < recursionLimit) (hu : un + 1000 < cLine)
    (ret : ∀ m' h' tk' t di fi sp nt nd nf ns, Keep [Str.ofString "held"] m m' → m' (Str.ofString "held") = some (.ref t) → Fr h₀ L h' m' → News h₀ L h' ((t, { cls := .type "tuple", data := .seq #[.ref di, .ref fi, .ref sp] nt }) :: (sp, W.listOf (sel 2 ents).toArray ns) :: (fi, W.listOf (sel 1 ents).toArray nf) :: (di, W.listOf (sel 0 ents).toArray nd) :: news) → QF .next { s with heap := h', toks := tk' }) :
    wpC (model PR w) (LA dp un L fa cd) (exec a17 (LE L fa cd)) QF s := by
  have sm43 : SMk 43 := trivial
  have d0 : KtsDicts (([] : List Env).filterMap (·.frame)) h₀ := ktsDicts_nil
  have e9 : fo [(Str.ofString "wanted", Value.ref wl)] m = m := fo_cons (by assumption) fo_nil
  have F' := F
  rw [← e9] at F'
  clear F
  dsimp only [a17, lit]
  refine wpC_Try (wpE_execs_cons (wpE_Expr (wpE_method ?_)))
  k_steps
  refine callWith_E (P := fun h => (KK w.params).In h) (fun h (hX : (KK w.params).In h) => ?hk) ?_
  case hk =>
    obtain ⟨k, hk, lk⟩ := keeps_K (K := KK w.params) (f := .ref 237) (by k_is) h hX
    exact ⟨k, hk, lk⟩
  show wpE _ _ (spliced [(false, eval _ _), (false, eval _ _)]) _ _ _
  refine wpE_spliced_cons (wpE_of ?_)
  (k_with "subscriptTail" => (first | ((have q9 : SMk 43 := (by with_reducible assumption)); clear q9; (first | (k_here; (with_reducible show wpAny _ _ (subscriptTail _ _ (Value.ref wl) (Value.int _ _)) _ _ _); (refine' item_K (v := Value.ref t) (by k_asm) hwl (by decide) (by decide) rfl ?_ (by with_unfolding_all rfl))) | (walk_at "my:itemT") | fail)) | fail))
  k_steps
  rename Fr h₀ L _ _ => F1
  rename News h₀ L _ _ => N1
  rw [e9] at F1
  refine wpE_spliced_cons (ev_laid (c := 70) (b := #[70, 32, 32, 32, 32, 32, 32, 32, 32, 32, 32]) (by rfl) (by rfl) (by decide) (by decide) B F1 X N1 T hd hu (fun h1 tk1 Q' F2 N2 hQ => ?_) (fun qx qdx qdl qod e8 d8 ba v1 v2 v3 v4 h2 tk2 ir F2 N2 lt l1 l2 l3 l4 l5 => ?_))
  · k_steps
    exact hQ _ _ _ F2 N2
  refine wpE_spliced_nil ⟨Frag.In.keeps X (Fr.keep F2), wpE_of ?_⟩
  refine c_refuse B F2 X N2 T (by rfl) (by omega) (by omega) ⟨qdx, qod, e8, qdl, _, ir, .tail _ (.head _), .tail _ (.tail _ (.head _))⟩ (fun e h3 h4 tk4 F3 R3 U3 => ?_)
  refine caughtY (A₀ := LA dp un L fa cd) rfl F3 U3 R3 X T (fun h5 oe ws F4 N4 d4 w4 => ?_) rfl rfl
  refine g17_held (hdl := some (.ref e)) (s := ⟨_, _, _, _, _⟩) (hdi.mono fun p hp => .tail _ (.tail _ (.tail _ (.tail _ (.tail _ (.tail _ (.tail _ hp))))))) (.tail _ (.tail _ (.tail _ (.tail _ (.tail _ (.tail _ (.tail _ hml))))))) (fun e he' => (he e he').mono fun p hp => .tail _ (.tail _ (.tail _ (.tail _ (.tail _ (.tail _ (.tail _ hp))))))) hn ⟨e, oe, ws, rfl, .head _, d4, w4⟩ l_parent B F4 X N4 T hd hu (fun m6 h6 tk6 t9 di fi sp nt nd nf ns kp lt9 F6 N6 => ?_)
  refine ret m6 h6 tk6 t9 di fi sp nt nd nf ns kp lt9 F6 (fun p hp => N6 p ?_)
  revert p hp
  refine all_c (.head _) (all_c (.tail _ (.head _)) (all_c (.tail _ (.tail _ (.head _))) (all_c (.tail _ (.tail _ (.tail _ (.head _)))) (fun p hp => ?_))))
  · exact .tail _ (.tail _ (.tail _ (.tail _ (.tail _ (.tail _ (.tail _ (.tail _ (.tail _ (.tail _ (.tail _ hp))))))))))
    
/-! ## a comprehension over a tuple of the ledger -/
section
open LCg
variable {prog : Program} {A : Around} {env : Env}
abbrev tupO (vs : Array Value) (k : Nat) : Obj := { cls := .type "tuple", data := .seq vs k }
theorem tup_in {h : Heap} {r : Addr} {vs : Array Value} {k : Nat} {news : List (Addr × Obj)} (N : News h₀ L h news) (hm : (r, tupO vs k) ∈ news) : h.IsTuple r vs := ⟨_, (N _ hm).1, rfl, _, rfl⟩
theorem ListComp_Tu {elt iter : Expr} {x : Str} {px : Pos} {scope : Scope} {cl : List (Str × Addr)} {pos : Pos} {Q : Value → Shared → Prop} (F₀ : Fr h₀ L s.heap m)
    (hclos : closureFor scope env = pure cl) (hcell : ∀ y ∈ scope.names, y.2 ≠ .cell) (hkind : scope.kind = .function)
    (hnames : ∀ y ∈ scope.names, y.2 = .local → scope.names.lookup y.1 = some .local) (hx : scope.names.lookup x = some .local)
    (h : wpAny (model prog w) A (eval iter env) (fun xv s₁ => ∃ (r : Addr) (vs : List Value) (k : Nat) (news : List (Addr × Obj)), xv = .ref r ∧ A.handled = none ∧ Fr h₀ L s₁.heap m ∧ News h₀ L s₁.heap news ∧ (r, tupO vs.toArray k) ∈ news ∧ vs.length ≤ sizeLine ∧
      ∀ s₂ : Shared, (∃ h, s₂ = { s₁ with heap := h }) → CompRest prog w A h₀ L m env elt x scope cl s₂ (fun nw => (r, tupO vs.toArray k) ∈ nw) (fun i v => vs[i]? = some v) (FinE h₀ L m s₂ Q) vs.length 0 [] news) E s)
    (hs : ∀ x, foldedSetIterable iter env x = pure x := by intro _; rfl) :
    wpAny (model prog w) A (eval (.ListComp elt [⟨.Name x px, iter, [], 0⟩] scope pos) env) Q E s := by
  rw [eval_ListComp]
  refine wpAny_comprehension_free (use := none) rfl hs hclos hkind hnames (wpAny_mono h (fun xv s₁ h₁ => ?_) fun _ _ e => e)
  refine hideG fun Z hZ => ?_
  obtain ⟨r, vs, k, news, rfl, hh, F, N, hm, hsz, R⟩ := h₁
  refine hZ ?_
  clear hZ Z
  have up : ∀ (o : Obj) b o', s₁.heap.get? b = some o' → (s₁.heap.push o).get? b = some o' := fun o b o' e => Heap.get?_push_of_some _ e
  have hl := tup_in N hm
  have hlt : r < s₁.heap.objs.size := Heap.lt_size (N _ hm).1
  have hne : r ≠ s₁.heap.objs.size := Nat.ne_of_lt hlt
  have hz' : vs.toArray.size ≤ sizeLine := by rw [List.size_toArray]; exact hsz
  have R' : CompRest prog w A h₀ L m env elt x scope cl { s₁ with heap := s₁.heap.push { cls := Value.type "tuple_iterator", data := Data.fields #[Value.ref r, Value.int 0 0] } } (fun nw => (r, tupO vs.toArray k) ∈ nw) (fun i v => vs.toArray[i]? = some v) (FinE h₀ L m { s₁ with heap := s₁.heap.push { cls := Value.type "tuple_iterator", data := Data.fields #[Value.ref r, Value.int 0 0] } } Q) vs.toArray.size 0 [] news := by
    have R1 := R { s₁ with heap := s₁.heap.push { cls := Value.type "tuple_iterator", data := Data.fields #[Value.ref r, Value.int 0 0] } } ⟨_, rfl⟩
    rw [List.size_toArray, show (fun (i : Nat) (v : Value) => vs.toArray[i]? = some v) = (fun i v => vs[i]? = some v) from by funext i v; rw [List.getElem?_toArray]]
    exact R1
  refine wpAny_pyIter_tuple hl ?_
  refine block_U (S := fun nw => (r, tupO vs.toArray k) ∈ nw) (Walks.tuple hh s₁.heap.objs.size r hne vs.toArray) hz' (fun i h st => ⟨_, st.1.choose_spec.1⟩) (fun i h h' o nw st e e' kp N' hs' => ?_) hcell hkind hx
    ⟨?_, ?_⟩ (fun b hb => ?_)
    (F.keeps (up _)) (N.grown (up _)) (Nat.ne_of_lt F.ns.lt) (next_is_new F) (fun p hp => Nat.ne_of_lt (Heap.lt_size (N p hp).1)) hm R' ?_
  · obtain ⟨⟨o', q, r'⟩, _⟩ := st
    rw [e] at q; cases q
    exact ⟨⟨o, e', r'⟩, tup_in N' hs'⟩
  · exact ⟨_, Heap.get?_push_size _ rfl, rfl, rfl⟩
  · exact tup_in (N.grown (up _)) hm
  · show b < (s₁.heap.push _).objs.size
    rw [Heap.size_push]
    rcases List.mem_cons.mp hb with rfl | hb
    · exact Nat.lt_succ_self _
    · rw [List.mem_singleton.mp hb]; exact Nat.lt_succ_of_lt hlt
  · intro D C h tk m' ys news' F' N' o1 hn hC₀ hD₀ hCL hDL hCD offC fin
    refine ⟨m', hn, fun h'' hs'' => fin D h'' tk (F'.change hs'' hCL hC₀) (fun p hp => ?_) o1⟩
    refine ⟨hs''.extBut _ _ ?_ (N' p hp).1, (N' p hp).2⟩
    rcases List.mem_cons.mp hp with rfl | hp
    · exact Ne.symm hCD
    · exact offC p hp
end
/-! ## plain laws: the lists of names, compared -/
open PyData in
theorem strs_eqv : ∀ l : List Str, PyData.eqvAll (l.map PyData.str) (l.map PyData.str) = true
  | [] => by simp [PyData.eqvAll]
  | x :: r => by simp [PyData.eqvAll, PyData.eqv, strs_eqv r]
theorem strs_lay : ∀ l : List Str, (∀ x ∈ l, PyData.strOk x = true) → PyData.canLayAll0 (l.map PyData.str) = true
  | [], _ => by simp [PyData.canLayAll0]
  | x :: r, h => by simp [PyData.canLayAll0, PyData.canLay0, strs_lay r (fun y hy => h y (.tail _ hy)), h x (.head _)]
theorem strs_depth : ∀ l : List Str, PyData.depthAll (l.map PyData.str) = 0
  | [] => by simp [PyData.depthAll]
  | x :: r => by simp [PyData.depthAll, PyData.depth, strs_depth r]
noncomputable def three (a b c : List Str) : PyData := .list [.list (a.map PyData.str), .list (b.map PyData.str), .list (c.map PyData.str)]
theorem three_eqv (a b c : List Str) : PyData.eqv (three a b c) (three a b c) = true := by
  simp [three, PyData.eqv, PyData.eqvAll, strs_eqv]
theorem three_shaped {a b c : List Str} (ha : ∀ x ∈ a, PyData.strOk x = true) (hb : ∀ x ∈ b, PyData.strOk x = true) (hc : ∀ x ∈ c, PyData.strOk x = true) : SeqAt.shaped (three a b c) = true := by
  simp [three, SeqAt.shaped, PyData.canLay0, PyData.canLayAll0, PyData.depth, PyData.depthAll, strs_lay a ha, strs_lay b hb, strs_lay c hc, strs_depth]
theorem strs_carried : ∀ {vs : List Value} {l : List Str}, StrsAre vs l → CarriedAll vs (l.map PyData.str)
  | _, _, .nil => .nil
  | _, _, .cons y t r => .cons (.str y t) (strs_carried r)
theorem three_reads {h : Heap} {D a b c : Addr} {va vb vc : List Value} {la lb lc : List Str} (hD : h.IsList D #[.ref a, .ref b, .ref c]) (ha : h.IsList a va.toArray) (hb : h.IsList b vb.toArray) (hc : h.IsList c vc.toArray) (sa : StrsAre va la) (sb : StrsAre vb lb) (sc : StrsAre vc lc) : ∃ as, Reads h (.ref D) (three la lb lc) as := by
  obtain ⟨o, ho, hc', n, hd⟩ := hD
  exact ⟨_, reads_list_at ho hc' hd (.cons (reads_newData ha (strs_carried sa)) (.cons (reads_newData hb (strs_carried sb)) (.cons (reads_newData hc (strs_carried sc)) .nil)))⟩
theorem sub_signs (x : Str) (a b : Nat) : ∀ c ∈ Mine.T (Builtin.Str.strSub x a b), c ∈ Mine.T x := fun c hc => by
  have e : Mine.T (Builtin.Str.strSub x a b) = ((Mine.T x).drop a).take (b - a) := by
    show (x.cps.extract a b).toList = _
    rw [Array.toList_extract]
  rw [e] at hc
  exact List.mem_of_mem_drop (List.mem_of_mem_take hc)
theorem rstrip_signs (x : Str) : ∀ c ∈ Mine.T (Txt.rstrip x), c ∈ Mine.T x := fun c hc => by
  unfold Txt.rstrip Txt.stripBy at hc
  split at hc
  · exact hc
  · exact sub_signs x _ _ c hc
theorem decT_small (b : Array UInt8) : ∀ c ∈ Mine.T (decT b), c < 256 := fun c hc => by
  rw [T_decT] at hc
  obtain ⟨u, _, rfl⟩ := List.mem_map.mp hc
  exact u.toNat_lt
theorem name_ok (b : Array UInt8) : PyData.strOk (nameT b) = true := by
  refine Array.all_eq_true_iff_forall_mem.mpr fun c hc => decide_eq_true ?_
  have h1 : c ∈ Mine.T (nameT b) := Array.mem_toList_iff.mpr hc
  unfold nameT at h1
  rw [T_join2] at h1
  have small : c < 256 → c < 0x110000 := fun h => Nat.lt_trans h (by decide)
  rcases List.mem_append.mp h1 with h1 | h1
  · exact small (decT_small _ c (rstrip_signs _ c h1))
  rcases List.mem_append.mp h1 with h1 | h1
  · split at h1
    · rcases List.mem_singleton.mp h1 with rfl
      decide
    · cases h1
  · exact small (decT_small _ c (rstrip_signs _ c h1))
theorem names_ok (j : Nat) (ents : List Ent) : ∀ x ∈ names j ents, PyData.strOk x = true := fun x hx => by
  obtain ⟨e, _, rfl⟩ := List.mem_map.mp hx
  exact name_ok _
/-- the rows made so far: the names of each kind -/
def RowJ (ents : List Ent) (base : List (Addr × Obj)) (i : Nat) (ys : List Value) (nw : List (Addr × Obj)) : Prop := ys.length = i ∧ (∀ j r, ys[j]? = some r → ∃ D vals, r = .ref D ∧ (D, LCg.lst vals) ∈ nw ∧ StrsAre vals (names j ents)) ∧ (∀ p ∈ base, p ∈ nw)
theorem RowJ.zero (ents : List Ent) (base : List (Addr × Obj)) : RowJ ents base 0 [] base := ⟨rfl, (fun _ _ h => nomatch h), fun _ h => h⟩
theorem RowJ.step {ents : List Ent} {base nw : List (Addr × Obj)} {i : Nat} {ys vals : List Value} {D : Addr} (h : RowJ ents base i ys nw) (hs : StrsAre vals (names i ents)) : RowJ ents base (i + 1) (ys ++ [.ref D]) ((D, LCg.lst vals) :: nw) := by
  obtain ⟨h1, h2, h3⟩ := h
  refine ⟨by rw [List.length_append, h1]; rfl, fun j r hj => ?_, fun p hp => .tail _ (h3 p hp)⟩
  by_cases q : j < i
  · rw [List.getElem?_append_left (by omega)] at hj
    obtain ⟨D', vals', e, hm, s⟩ := h2 j r hj
    exact ⟨D', vals', e, .tail _ hm, s⟩
  · rw [List.getElem?_append_right (by omega)] at hj
    have e : j - ys.length = 0 := by
      cases z : j - ys.length with
      | zero => rfl
      | succ n => rw [z] at hj; cases hj
    rw [e] at hj
    have e2 : j = i := by omega
    rw [e2]
    exact ⟨D, vals, (Option.some.inj hj).symm, .head _, hs⟩
theorem off3_of1 {I C D T : Addr} {oI oC oD o : Obj} {nw : List (Addr × Obj)} (h : LCg.Off1 T ((I, oI) :: (C, oC) :: (D, oD) :: nw)) (h3 : LCg.Off3 I C D nw) : LCg.Off3 I C D ((T, o) :: nw) := ⟨⟨Ne.symm h.1, Ne.symm h.2.1, Ne.symm h.2.2.1⟩, h3⟩
theorem three_of {l : List Value} (h : l.length = 3) : ∃ a b c, l = [a, b, c] := by
  cases l with
  | nil => cases h
  | cons a l => cases l with
    | nil => cases h
    | cons b l => cases l with
      | nil => cases h
      | cons c l => cases l with
        | nil => exact ⟨a, b, c, rfl⟩
        | cons d l => cases h
theorem pick3 {a b c v : Value} : ∀ {i : Nat}, [a, b, c][i]? = some v → (i = 0 ∧ v = a) ∨ (i = 1 ∧ v = b) ∨ (i = 2 ∧ v = c)
  | 0, h => .inl ⟨rfl, (Option.some.inj h).symm⟩
  | 1, h => .inr (.inl ⟨rfl, (Option.some.inj h).symm⟩)
  | 2, h => .inr (.inr ⟨rfl, (Option.some.inj h).symm⟩)
  | _ + 3, h => nomatch h
theorem pick3T {P : Nat → Addr → Nat → Prop} {a b c : Addr} {x y z : Nat} {v : Value} {i : Nat} (h : [Value.ref a, Value.ref b, Value.ref c][i]? = some v) (h0 : P 0 a x) (h1 : P 1 b y) (h2 : P 2 c z) : ∃ r k, v = .ref r ∧ P i r k := by
  rcases pick3 h with ⟨rfl, rfl⟩ | ⟨rfl, rfl⟩ | ⟨rfl, rfl⟩
  · exact ⟨_, _, rfl, h0⟩
  · exact ⟨_, _, rfl, h1⟩
  · exact ⟨_, _, rfl, h2⟩
open LCg in
theorem g18_ret {QF : Flow → Shared → Prop} {fa cd t di fi sp fl gl al : Addr} {nt nd nf ns n1 n2 n3 : Nat} {ents : List Ent} {fv gv av : List Value} {fs gs as : List Str} (ht : (t, ({ cls := .type "tuple", data := .seq #[.ref di, .ref fi, .ref sp] nt } : Obj)) ∈ news) (hsp : (sp, W.listOf (sel 2 ents).toArray ns) ∈ news) (hfi : (fi, W.listOf (sel 1 ents).toArray nf) ∈ news) (hdi : (di, W.listOf (sel 0 ents).toArray nd) ∈ news) (he : ∀ e ∈ ents, EntOk w.params news e) (hn : ents.length ≤ 64) (hf : (fl, W.listOf fv.toArray n1) ∈ news) (hg : (gl, W.listOf gv.toArray n2) ∈ news) (ha : (al, W.listOf av.toArray n3) ∈ news) (sf : StrsAre fv fs) (sg : StrsAre gv gs) (sa : StrsAre av as) (tl : Tells ents fs gs as) (l_held : m (Str.ofString "held") = some (.ref t)) (l_folders : m (Str.ofString "folders") = some (.ref fl)) (l_files : m (Str.ofString "files") = some (.ref gl)) (l_aside : m (Str.ofString "aside") = some (.ref al)) (B : Below A₀ h₀ [] h₀) (F : Fr h₀ L s.heap m) (X : (KK w.params).In h₀) (N : News h₀ L s.heap news) (T : Top VW LO mean mg mb h₀) (hd : dp + 100 < recursionLimit) (hu : un + 1000 < cLine)
    (ret : ∀ h' tk', Fr h₀ L h' m → News h₀ L h' news → QF (.ret (.bool true)) { s with heap := h', toks := tk' }) :
    wpAny (model PR w) (LA dp un L fa cd) (exec a18 (LE L fa cd)) QF E s := by
  have sm44 : SMk 44 := trivial
  have d0 : KtsDicts (([] : List Env).filterMap (·.frame)) h₀ := ktsDicts_nil
  have e9 : fo [(Str.ofString "held", Value.ref t), (Str.ofString "folders", Value.ref fl), (Str.ofString "files", Value.ref gl), (Str.ofString "aside", Value.ref al)] m = m := fo_cons (by assumption) (fo_cons (by assumption) (fo_cons (by assumption) (fo_cons (by assumption) fo_nil)))
  replace F := e9.symm ▸ F
  dsimp only [a18, lit]
  (k_with "eval ListComp" => (first | ((have q9 : SMk 44 := (by with_reducible assumption)); clear q9; (refine Stop.at ?_)) | fail))
  (k_with "Exists" => (first | ((have q9 : SMk 44 := (by with_reducible assumption)); clear q9; (refine Stop.at ?_)) | fail))
  (k_with "CompEnd" => (first | ((have q9 : SMk 44 := (by with_reducible assumption)); clear q9; (refine Stop.at ?_)) | fail))
  (k_with "compareOp Eq ref ref" => (first | ((have q9 : SMk 44 := (by with_reducible assumption)); clear q9; (refine Stop.at ?_)) | fail))
  k_steps
  unfold Stop
  k_here
  refine' ListComp_Tu (F₀ := by k_asm) ?z1 ?z2 ?z3 ?z4 ?z5 ?z6
  (case z2 => decide)
  (case z3 => rfl)
  (case z4 => decide)
  (case z5 => rfl)
  (case z1 => with_unfolding_all rfl)
  k_steps
  unfold Stop
  refine ⟨t, [.ref di, .ref fi, .ref sp], nt, news, rfl, rfl, by k_asm, by k_asm, ht, (by show 3 ≤ sizeLine; decide), ?_⟩
  rintro s₂ ⟨g9, rfl⟩
  refine rest_grow (n := 3) (RowJ ents) (RowJ.zero _ _) ?t8 ?f8
  case f8 =>
    intro ys8 nw8 hJ8
    unfold LCg.FinE
    intro D8 h8 tk8 F8 N8 off8
    refine hideG fun Z hZ => ?_
    have j2 := hJ8.2.1
    have j3 := hJ8.2.2
    refine ex3 (three_of hJ8.1) ?_
    clear hJ8
    intro r0 r1 r2 e7
    subst e7
    obtain ⟨D0, w0, rfl, k0, s0⟩ := j2 0 _ rfl
    obtain ⟨D1, w1, rfl, k1, s1⟩ := j2 1 _ rfl
    obtain ⟨D2, w2, rfl, k2, s2⟩ := j2 2 _ rfl
    have sh := three_shaped (names_ok 0 ents) (names_ok 1 ents) (names_ok 2 ents)
    rw [tl.f] at s0 sh
    rw [tl.g] at s1 sh
    rw [tl.a] at s2 sh
    refine hZ ?_
    clear hZ Z
    k_steps
    unfold Stop
    rename News h₀ L _ (_ :: (D8, _) :: _) => N7
    obtain ⟨q1, R1⟩ := three_reads (list_in (vs := [.ref D0, .ref D1, .ref D2]) N7 (.tail _ (.head _))) (list_in N7 (.tail _ (.tail _ k0))) (list_in N7 (.tail _ (.tail _ k1))) (list_in N7 (.tail _ (.tail _ k2))) s0 s1 s2
    obtain ⟨q2, R2⟩ := three_reads (list_in (vs := [.ref fl, .ref gl, .ref al]) N7 (.head _)) (list_in N7 (.tail _ (.tail _ (j3 _ hf)))) (list_in N7 (.tail _ (.tail _ (j3 _ hg)))) (list_in N7 (.tail _ (.tail _ (j3 _ ha)))) sf sg sa
    refine eq_dataH R1 R2 sh sh (by show un + 64 < cLine; omega) ?_
    rw [three_eqv]
    rename Fr h₀ L _ _ => F7
    rw [e9] at F7
    exact ret _ _ F7 (fun p hp => N7 p (.tail _ (.tail _ (j3 p hp))))
  intro i8 v8 I8 oI8 C8 oC8 D8 m8 ys8 nw8 h8 tk8 E8 hi8 hv8 hJ8 hC8 hm8 F8 N8 off8 ne8
  refine hideG fun Z hZ => ?_
  obtain ⟨r8, k8, rfl, hr8⟩ : ∃ r8 k8, v8 = .ref r8 ∧ (r8, W.listOf (sel i8 ents).toArray k8) ∈ nw8 := pick3T (P := fun i r k => (r, W.listOf (sel i ents).toArray k) ∈ nw8) hv8 (hJ8.2.2 _ hdi) (hJ8.2.2 _ hfi) (hJ8.2.2 _ hsp)
  refine hZ ?_
  clear hZ Z
  k_steps
  unfold Stop
  k_here
  refine' ListComp_L (F₀ := by k_asm) ?y1 ?y2 ?y3 ?y4 ?y5 ?y6
  (case y2 => decide)
  (case y3 => rfl)
  (case y4 => decide)
  (case y5 => rfl)
  (case y1 => with_unfolding_all rfl)
  k_steps
  unfold Stop
  have sl : (sel i8 ents).length ≤ sizeLine := by
    unfold sel
    rw [List.length_map, PySem.sizeLine_eq]
    exact Nat.le_trans (List.length_filter_le _ _) (Nat.le_trans hn (by decide))
  refine ⟨r8, sel i8 ents, k8, _, rfl, rfl, by k_asm, by k_asm, (.tail _ (.tail _ (.tail _ hr8))), sl, ?_⟩
  rintro s₂ ⟨g7, rfl⟩
  refine rest_map (as := selE i8 ents) (iv := fun e v => v = Value.ref e.x) (G := fun e v => ∃ t, v = .str (nameT e.b) t) (by rw [sel_map, List.length_map]) (fun i v h => by rw [sel_map] at h; obtain ⟨e, h1, h2⟩ := map_at h; exact ⟨e, h1, h2.symm⟩) ?t7 ?f7
  case f7 =>
    intro ys7 r7
    unfold LCg.FinE
    intro D7 h7 tk7 F7 N7 off7
    k_steps
    unfold Stop
    refine LCg.CompEnd.intro F7 N7 ((D7, lst ys7) :: nw8) (fun p hp => ?_) (off3_of1 off7 off8) (.tail _ (hJ8.2.2 _ ht)) (hJ8.step (Rel2.strs r7))
    revert p hp
    exact all_c (.tail _ (.head _)) (all_c (.tail _ (.tail _ (.head _))) (all_c (.tail _ (.tail _ (.tail _ (.head _)))) (all_c (.head _) (fun p hp => .tail _ (.tail _ (.tail _ (.tail _ hp)))))))
  intro e9' v9 I9 oI9 C9 oC9 D9 m9 ys9 h9 tk9 E9 he9 hv9 hC9 hm9 F9 N9 off9 ne9
  rw [hv9] at hm9
  have hE9 := he e9' (List.mem_filter.mp he9).1
  have hn9 := hE9.2.1
  replace hE9 := hE9.1.mono hJ8.2.2
  refine hE9.elim ?_
  intro dx' dl' e8' d8' S' w1 w2 w3 w4 par' u1' u2' u3' u4' u5' u6' u7' u8' u9' u10' u11' u12' u13' u14' u15' u16' u17' u18' r1' r2' r3' r4' r5' r6' r7' r8' r9' r10' r11' r12' k1 k2 _ _ _
  k_steps
  unfold Stop
  rename Fr h₀ L _ _ => F6
  rename News h₀ L _ _ => N6
  exact LCg.CompEnd.intro F6 N6 _ (fun p hp => hp) off9 (.tail _ (.tail _ (.tail _ hr8))) ⟨rfl, _, rfl⟩
/-! ## the ground with make's table laid aside -/
noncomputable abbrev tabs1 : List (Addr × Addr) := [(236, 234)]
theorem fields_ne {o : Obj} {vs : Array Value} {i : Nat} {v : Value} (hd : o.data = .fields vs) (hv : vs[i]? = some v) : o ≠ tabObj #[] := fun q => by
  rw [q] at hd
  cases hd
  cases hv
theorem ghost_T {mean : ExcName → Option Value} {mg mb : Str → Option Value} {h : Heap} {P : Params} (hT : TabsAt tabs1 h) (X : (KK P).In h) (T : Top VW LO mean mg mb h) : Top VW LO mean mg mb (ghostOf h tabs1) where
  g := ghost_ns hT T.g
  b := ghost_ns hT T.b
  nolimit := let ⟨mc, a, r⟩ := T.nolimit; ⟨mc, ghost_ns hT a, r⟩
  nodigits := let ⟨mc, a, r⟩ := T.nodigits; ⟨mc, ghost_ns hT a, r⟩
  fn := fun d hd => by
    refine hideG fun Z hZ => ?_
    refine ex5 (T.fn d hd) ?_
    intro a o pm code doc hq
    refine an4 hq ?_
    clear hq
    intro h1 h2 h3 hq
    refine ex4 hq ?_
    clear hq
    intro c oc vs t hq
    refine an4 hq ?_
    clear hq
    intro h4 h5 h6 h7
    exact hZ ⟨a, o, pm, code, doc, h1, ghost_get hT h2 (fun q => by rw [q] at h3; cases h3), h3, c, oc, vs, t, h4, ghost_get hT h5 (fields_ne h6 h7), h6, h7⟩
  own := fun o ho => absurd (show o ∈ ([] : List OwnSpec) from by rw [show ([] : List OwnSpec) = ownsOf VW from by kernel_rfl]; exact ho) List.not_mem_nil
  const := T.const
  free := T.free
  builtins := T.builtins
  tab := fun d hd => by
    refine hideG fun Z hZ => ?_
    refine ex5 (T.tab d hd) ?_
    intro a o fd c P' hq
    refine an7 hq ?_
    clear hq
    intro h1 h2 h3 h4 hA hB k5
    refine ex8 hA ?_
    clear hA
    intro o1 vs1 file tf flags tg inF text hA
    refine ex2 hA ?_
    clear hA
    intro tt op hA
    refine an10 hA ?_
    clear hA
    intro g1 g2 g3 g4 g5 g6 g7 g8 g9 g10
    refine ex2 hB ?_
    clear hB
    intro o2 vs2 hB
    refine an4 hB ?_
    clear hB
    intro k1 k2 k3 k4
    have hn : d.name = Str.ofString "law" := by
      have e : (recsOf VW).map (·.name) = [Str.ofString "law"] := by kernel_rfl
      have : d.name ∈ (recsOf VW).map (·.name) := List.mem_map_of_mem hd
      rw [e] at this
      exact List.mem_singleton.mp this
    rw [hn] at h1
    have h5 : fd.code = .ref 668 := law_code (x := Str.ofString "law") (c := 668) (P := 666) X T.g (by kernel_rfl) h1 h2 h3
    rw [h4] at h5
    cases h5
    have hfd : (recsOf VW).find? (fun e => e.name == Str.ofString "law") = some d := by
      have e : recsOf VW = [lawD] := by kernel_rfl
      rw [e] at hd ⊢
      rw [List.mem_singleton.mp hd]
      rfl
    obtain ⟨⟨o3, vs3, _, _, _, _, _, _, _, j1, _, j3, j4, _⟩, _⟩ := tab_of (d := d) (x := Str.ofString "law") (c := 668) (P := 666) T X hfd (by kernel_rfl)
    rw [k1] at j1
    cases j1
    rw [k3] at j3
    cases j3
    rw [k4] at j4
    have hP : P' = 666 := Value.ref.inj (Option.some.inj j4)
    have hne : P' ∉ tabs1.map (·.2) := by rw [hP]; decide
    rw [g1] at k1
    cases k1
    rw [k3] at g2
    cases g2
    have ec := ghost_get hT g1 (fields_ne k3 k4)
    have eP := ghost_ne g8 hne
    exact hZ (xi5 a o fd 668 P' ⟨hn ▸ h1, ghost_get hT h2 (fun q => by rw [q] at h3; cases h3), h3, h4, xi8 _ _ file tf flags tg inF text ⟨tt, op, ec, k3, g3, g4, g5, g6, g7, eP, g9, g10⟩, ⟨_, _, ec, k2, k3, k4⟩, ghost_ne k5 hne⟩)
  bmain := let ⟨bm, ob, a1, a2, a3, a4, r⟩ := T.bmain; ⟨bm, ob, a1, a2, ghost_get hT a3 (fun q => by rw [q] at a4; cases a4), a4, r⟩
  seer := fun e => let N := T.seer e; {
    statics := let ⟨mc, a, b⟩ := N.statics; ⟨mc, ghost_ns hT a, b⟩
    mods := let ⟨mm, a, b⟩ := N.mods; ⟨mm, ghost_ns hT a, b⟩
    imp := let ⟨m2, a, b⟩ := N.imp; ⟨m2, ghost_ns hT a, b⟩
    main := let ⟨m2, bm, ob, a, b, c, d, e⟩ := N.main; ⟨m2, bm, ob, ghost_ns hT a, b, ghost_get hT c (fun q => by rw [q] at d; cases d), d, e⟩ }
/-- the law's cells and the table -/
noncomputable abbrev cellsL (L : Addr) (c1 c2 c3 c4 c5 : Obj) (ps : Array Value) : List (Addr × Obj) := [(L + 1, c1), (L + 2, c2), (L + 3, c3), (L + 4, c4), (L + 5, c5), (234, tabObj ps)]
def IsCell (o : Obj) : Prop := ∃ v, o.data = .cell v
theorem plain_cell {o c : Obj} (h : Plain o) (hc : IsCell c) : o ≠ c := fun e => by obtain ⟨v, hv⟩ := hc; rw [← e] at hv; exact h.1 v hv
theorem plain_tab {o : Obj} {ps : Array Value} (h : Plain o) : o ≠ tabObj ps := fun e => h.2 (by rw [e])
theorem nsub {h : Heap} {a b : List (Addr × Obj)} (N : News h₀ L h a) (hs : ∀ p ∈ b, p ∈ a) : News h₀ L h b := fun p hp => N p (hs p hp)
/-- an object that is neither cell nor table lies apart from both -/
theorem plain_off {h : Heap} {S : List (Addr × Obj)} {a : Addr} {c : Obj} (N : News h₀ L h S) (hc : (a, c) ∈ S) (hk : IsCell c ∨ ∃ ps, c = tabObj ps) : ∀ p ∈ S, Plain p.2 → p.1 ≠ a := fun p hp hpl => by
  refine News.ne N (o := p.2) (o' := c) hp hc ?_
  rcases hk with hk | ⟨ps, rfl⟩
  · exact plain_cell hpl hk
  · exact plain_tab hpl
open Classical in
noncomputable def plains (l : List (Addr × Obj)) : List (Addr × Obj) := l.filter fun p => decide (Plain p.2)
open Classical in
theorem mem_plains {l : List (Addr × Obj)} {p : Addr × Obj} : p ∈ plains l ↔ p ∈ l ∧ Plain p.2 := by
  unfold plains
  rw [List.mem_filter, decide_eq_true_eq]
theorem WantV.plain {a b : List (Addr × Obj)} {v : Value} (h : WantV a v) (hs : ∀ p ∈ a, Plain p.2 → p ∈ b) : WantV b v := by
  refine h.elim ?_
  intro t x b' y mk t1 t2 t3 t4 h0 h1 h2 h3 h4 h5 h6
  exact xi8 t x b' y mk t1 t2 t3 ⟨t4, h0, hs _ h1 (IsTup.plain ⟨rfl, _, _, rfl⟩), h2, h3, h4, h5, h6⟩
theorem AheadV.plain {a b : List (Addr × Obj)} {v : Value} (h : AheadV a v) (hs : ∀ p ∈ a, Plain p.2 → p ∈ b) : AheadV b v := by
  exact ex7 h fun t x y t1 t2 bs es h => xi7 t x y t1 t2 bs es ⟨h.1, hs _ h.2.1 (IsTup.plain ⟨rfl, _, _, rfl⟩), h.2.2⟩
theorem off_cons {a : Addr} {p : Addr × Obj} {l : List (Addr × Obj)} (h : p.1 ≠ a) (h' : ∀ q ∈ l, q.1 ≠ a) : ∀ q ∈ p :: l, q.1 ≠ a := fun q hq => by
  revert q hq
  exact all_c h (fun q hq => h' q hq)
theorem off_nil {a : Addr} : ∀ q ∈ ([] : List (Addr × Obj)), q.1 ≠ a := fun _ h => nomatch h
theorem sub_cons {p : Addr × Obj} {l S : List (Addr × Obj)} (h : p ∈ S) (h' : ∀ q ∈ l, q ∈ S) : ∀ q ∈ p :: l, q ∈ S := fun q hq => by
  revert q hq
  exact all_c h (fun q hq => h' q hq)
theorem sub_nil {S : List (Addr × Obj)} : ∀ q ∈ ([] : List (Addr × Obj)), q ∈ S := fun _ h => nomatch h
theorem tab_cell {h : Heap} {S : List (Addr × Obj)} {a : Addr} {c : Obj} {ps : Array Value} (N : News h₀ L h S) (ht : (234, tabObj ps) ∈ S) (hc : (a, c) ∈ S) (hk : IsCell c) : (234 : Addr) ≠ a := News.ne N ht hc fun e => by
  obtain ⟨v, hv⟩ := hk
  rw [← e] at hv
  cases hv
theorem stA {QF : Flow → Shared → Prop} {fa cd sa : Addr} {vs : List Value} {ns : List Int} {c1 c2 c3 c4 c5 : Obj} (hs : h₀.IsList sa vs.toArray) (hi : IntsAre vs ns) (hz : ns.length ≤ 63) (k1 : IsCell c1) (k2 : IsCell c2) (k3 : IsCell c3) (k4 : IsCell c4) (k5 : IsCell c5) (l_script : m (Str.ofString "script") = some (.ref sa)) (B : Below A₀ h₀ [] h₀) (F : Fr h₀ L s.heap m) (X : (KK w.params).In h₀) (N : News h₀ L s.heap (cellsL L c1 c2 c3 c4 c5 #[])) (T : Top VW LO mean mg mb h₀) (hd : dp + 100 < recursionLimit) (hu : un + 1000 < cLine)
    (ret : ∀ m' h' tk' c1' fv tf dv wl (ws : List Value) kw R, c1'.data = .cell (some (.int fv tf)) → (∀ p ∈ R, Plain p.2) → (wl, W.listOf ws.toArray kw) ∈ R → 1 ≤ ws.length → ws.length ≤ 5 → (∀ v ∈ ws, WantV R v) → m' (Str.ofString "deep") = some (.bool dv) → m' (Str.ofString "wanted") = some (.ref wl) → Fr h₀ L h' m' → News h₀ L h' (cellsL L c1' c2 c3 c4 c5 #[] ++ R) → QF .next { s with heap := h', toks := tk' }) :
    wpAny (model PR w) (LA dp un L fa cd) (execs [a0, a1, a2, a3, a4] (LE L fa cd)) QF E s := by
  obtain ⟨v1, k1⟩ := k1
  have t1 := tab_cell N (.tail _ (.tail _ (.tail _ (.tail _ (.tail _ (.head _)))))) (.head _) ⟨v1, k1⟩
  refine wpAny_execs_cons (g0_first (news := [(L + 2, c2), (L + 3, c3), (L + 4, c4), (L + 5, c5), (234, tabObj #[])]) hs hi hz k1 (off_cons (Nat.ne_of_gt (by omega)) (off_cons (Nat.ne_of_gt (by omega)) (off_cons (Nat.ne_of_gt (by omega)) (off_cons (Nat.ne_of_gt (by omega)) (off_cons t1 off_nil))))) l_script B F X N T hd hu (fun m1 h1 tk1 c1' fv tf d1 kp1 F1 N1 => ?_))
  dsimp only
  refine wpAny_execs_cons (g0_numbers (s := ⟨_, _, _, _, _⟩) hs hi hz (kp1.at l_script) B F1 X N1 T hd hu (fun m2 h2 tk2 c us ks k i2 z2 o2 lt2 kp2 l2 F2 N2 => ?_))
  dsimp only
  refine wpAny_execs_cons (g0_deep (s := ⟨_, _, _, _, _⟩) d1 (.tail _ (.head _)) B F2 X N2 T hd hu (fun m3 h3 tk3 dv kp3 l3 F3 N3 => ?_))
  dsimp only
  refine wpAny_execs_cons (g0_wanted (s := ⟨_, _, _, _, _⟩) B F3 X N3 T hd hu (fun m4 h4 tk4 wl lt4 kp4 l4 F4 N4 => ?_))
  dsimp only
  refine wpAny_execs_cons (g4_loop (s := ⟨_, _, _, _, _⟩) i2 z2 (.head _) (fun p hp => Nat.ne_of_lt (lt4 p hp)) (kp4.at (kp3.at l2)) l4 (kp4.at l3) B F4 X N4 T hd hu (fun m5 h5 tk5 ws kw nx zw hw hsub hoff htup kp5 F5 N5 => ?_))
  dsimp only
  have hl : us.length = ks.length := i2.length
  refine wpAny_execs_nil (ret m5 h5 tk5 c1' fv tf dv wl ws kw (plains ((wl, W.listOf ws.toArray kw) :: nx)) d1 (fun p hp => (mem_plains.mp hp).2) (mem_plains.mpr ⟨.head _, list_plain⟩) (by omega) (by omega) (fun v hv => (hw v hv).plain fun p hp hpl => mem_plains.mpr ⟨.tail _ hp, hpl⟩) (kp5.at (kp4.at l3)) (kp5.at l4) F5 (nsub N5 fun p hp => ?_))
  revert p hp
  exact all_a (fun p hp => .tail _ (hsub p (.tail _ hp))) (fun p hp => (mem_plains.mp hp).1)
theorem stB {QF : Flow → Shared → Prop} {fa cd wl : Addr} {ws : List Value} {kw : Nat} {c1 c2 c3 c4 c5 : Obj} {fv : Int} {tf : Tok} {dv : Bool} {R : List (Addr × Obj)} (d1 : c1.data = .cell (some (.int fv tf))) (k2 : IsCell c2) (k3 : IsCell c3) (k4 : IsCell c4) (k5 : IsCell c5) (hR : ∀ p ∈ R, Plain p.2) (hwl : (wl, W.listOf ws.toArray kw) ∈ R) (hw1 : 1 ≤ ws.length) (hw5 : ws.length ≤ 5) (hw : ∀ v ∈ ws, WantV R v) (l_deep : m (Str.ofString "deep") = some (.bool dv)) (l_wanted : m (Str.ofString "wanted") = some (.ref wl)) (B : Below A₀ h₀ [] h₀) (F : Fr h₀ L s.heap m) (X : (KK w.params).In h₀) (N : News h₀ L s.heap (cellsL L c1 c2 c3 c4 c5 #[] ++ R)) (T : Top VW LO mean mg mb h₀) (hd : dp + 100 < recursionLimit) (hu : un + 1000 < cLine)
    (ret : ∀ m' h' tk' c2' c3' c4' wl (ws : List Value) kw al (vs : List Value) ka R, IsCell c2' → IsCell c3' → c4'.data = .cell (some (.ref al)) → (∀ p ∈ R, Plain p.2) → (wl, W.listOf ws.toArray kw) ∈ R → 1 ≤ ws.length → ws.length ≤ 5 → (∀ v ∈ ws, WantV R v) → (al, W.listOf vs.toArray ka) ∈ R → vs.length ≤ 10 → (∀ v ∈ vs, AheadV R v) → m' (Str.ofString "wanted") = some (.ref wl) → Fr h₀ L h' m' → News h₀ L h' ([(L + 1, c1), (L + 2, c2'), (L + 3, c3'), (L + 4, c4'), (234, tabObj #[])] ++ R) → QF .next { s with heap := h', toks := tk' }) :
    wpAny (model PR w) (LA dp un L fa cd) (execs [a5, a6, a7, a8] (LE L fa cd)) QF E s := by
  have tt := List.mem_append_left R (show (234, tabObj #[]) ∈ cellsL L c1 c2 c3 c4 c5 #[] from .tail _ (.tail _ (.tail _ (.tail _ (.tail _ (.head _))))))
  have m1 := List.mem_append_left R (show (L + 1, c1) ∈ cellsL L c1 c2 c3 c4 c5 #[] from .head _)
  have m2 := List.mem_append_left R (show (L + 2, c2) ∈ cellsL L c1 c2 c3 c4 c5 #[] from .tail _ (.head _))
  have m3 := List.mem_append_left R (show (L + 3, c3) ∈ cellsL L c1 c2 c3 c4 c5 #[] from .tail _ (.tail _ (.head _)))
  have m4 := List.mem_append_left R (show (L + 4, c4) ∈ cellsL L c1 c2 c3 c4 c5 #[] from .tail _ (.tail _ (.tail _ (.head _))))
  have m5 := List.mem_append_left R (show (L + 5, c5) ∈ cellsL L c1 c2 c3 c4 c5 #[] from .tail _ (.tail _ (.tail _ (.tail _ (.head _)))))
  have t2 := tab_cell N tt m2 k2
  have t3 := tab_cell N tt m3 k3
  have t4 := tab_cell N tt m4 k4
  have t5 := tab_cell N tt m5 k5
  have o2 : ∀ p ∈ R, p.1 ≠ L + 2 := fun p hp => plain_off N m2 (.inl k2) p (List.mem_append_right _ hp) (hR p hp)
  have o3 : ∀ p ∈ R, p.1 ≠ L + 3 := fun p hp => plain_off N m3 (.inl k3) p (List.mem_append_right _ hp) (hR p hp)
  have o4 : ∀ p ∈ R, p.1 ≠ L + 4 := fun p hp => plain_off N m4 (.inl k4) p (List.mem_append_right _ hp) (hR p hp)
  have o5 : ∀ p ∈ R, p.1 ≠ L + 5 := fun p hp => plain_off N m5 (.inl k5) p (List.mem_append_right _ hp) (hR p hp)
  have inR : ∀ p ∈ R, p ∈ cellsL L c1 c2 c3 c4 c5 #[] ++ R := fun p hp => List.mem_append_right _ hp
  obtain ⟨t0, wr, rfl⟩ : ∃ t0 wr, ws = t0 :: wr := by
    cases ws with
    | nil => exact absurd hw1 (by decide)
    | cons a b => exact ⟨a, b, rfl⟩
  obtain ⟨tl, x, b, y, mk, q1, q2, q3, q4, rfl, htl, hx, ha, hp, hB, hm⟩ := hw t0 (.head _)
  have g := good_parts ha hB
  have zr : wr.length ≤ 8 := Nat.le_trans (Nat.le_of_succ_le_succ hw5) (by decide)
  obtain ⟨v2, k2⟩ := k2
  obtain ⟨v3, k3⟩ := k3
  obtain ⟨v4, k4⟩ := k4
  obtain ⟨v5, k5⟩ := k5
  refine wpAny_execs_cons (g5_base (news := (L + 1, c1) :: (L + 3, c3) :: (L + 4, c4) :: (L + 5, c5) :: (234, tabObj #[]) :: R) (.tail _ (.tail _ (.tail _ (.tail _ (.tail _ hwl))))) (.tail _ (.tail _ (.tail _ (.tail _ (.tail _ htl))))) ⟨zr⟩ k2 (off_cons (Nat.ne_of_lt (by omega)) (off_cons (Nat.ne_of_gt (by omega)) (off_cons (Nat.ne_of_gt (by omega)) (off_cons (Nat.ne_of_gt (by omega)) (off_cons t2 o2))))) l_wanted B F X (nsub N (sub_cons m2 (sub_cons m1 (sub_cons m3 (sub_cons m4 (sub_cons m5 (sub_cons tt inR))))))) T hd hu (fun n1 h1 tk1 c2' e2 kp1 F1 N1 => ?_))
  dsimp only
  refine wpAny_execs_cons (g6_tail (s := ⟨_, _, _, _, _⟩) (news := (L + 1, c1) :: (L + 2, c2') :: (L + 4, c4) :: (L + 5, c5) :: (234, tabObj #[]) :: R) (.tail _ (.tail _ (.tail _ (.tail _ (.tail _ hwl))))) (.tail _ (.tail _ (.tail _ (.tail _ (.tail _ htl))))) ⟨zr⟩ k3 (off_cons (Nat.ne_of_lt (by omega)) (off_cons (Nat.ne_of_lt (by omega)) (off_cons (Nat.ne_of_gt (by omega)) (off_cons (Nat.ne_of_gt (by omega)) (off_cons t3 o3))))) (kp1.at l_wanted) B F1 X (nsub N1 (sub_cons (.tail _ (.tail _ (.head _))) (sub_cons (.tail _ (.head _)) (sub_cons (.head _) (fun q hq => .tail _ (.tail _ (.tail _ hq))))))) T hd hu (fun n2 h2 tk2 c3' e3 kp2 F2 N2 => ?_))
  dsimp only
  refine wpAny_execs_cons (g7_ahead (s := ⟨_, _, _, _, _⟩) (news := (L + 1, c1) :: (L + 2, c2') :: (L + 3, c3') :: (L + 5, c5) :: (234, tabObj #[]) :: R) (.tail _ (.head _)) e2 (.tail _ (.tail _ (.head _))) e3 k4 (off_cons (Nat.ne_of_lt (by omega)) (off_cons (Nat.ne_of_lt (by omega)) (off_cons (Nat.ne_of_lt (by omega)) (off_cons (Nat.ne_of_gt (by omega)) (off_cons t4 o4))))) ⟨g⟩ ⟨hp.tb⟩ ⟨hp.ty⟩ (by rw [← T_len, hp.tb]; exact g.b8) B F2 X (nsub N2 (sub_cons (.tail _ (.tail _ (.tail _ (.head _)))) (sub_cons (.tail _ (.head _)) (sub_cons (.tail _ (.tail _ (.head _))) (sub_cons (.head _) (fun q hq => .tail _ (.tail _ (.tail _ (.tail _ hq)))))))))  T hd hu (fun n3 h3 tk3 al vs ka c4' nx e4 z10 hv hal hsub hpl kp3 F3 N3 => ?_))
  dsimp only
  have t5' : (234 : Addr) ≠ L + 5 := t5
  have P : ∀ p ∈ plains nx, Plain p.2 := fun p hp => (mem_plains.mp hp).2
  have inP : ∀ p ∈ nx, Plain p.2 → p ∈ plains nx := fun p hp hq => mem_plains.mpr ⟨hp, hq⟩
  have RP : ∀ p ∈ R, p ∈ plains nx := fun p hp => inP p (hsub p (.tail _ (.tail _ (.tail _ (.tail _ (.tail _ hp)))))) (hR p hp)
  have p4 : ∀ p ∈ plains nx, p.1 ≠ L + 4 := fun p hp => plain_off N3 (.head _) (.inl ⟨_, e4⟩) p (.tail _ (mem_plains.mp hp).1) (P p hp)
  have p5 : ∀ p ∈ plains nx, p.1 ≠ L + 5 := fun p hp => plain_off N3 (.tail _ (hsub _ (.tail _ (.tail _ (.tail _ (.head _)))))) (.inl ⟨_, k5⟩) p (.tail _ (mem_plains.mp hp).1) (P p hp)
  refine wpAny_execs_cons (g8_all (s := ⟨_, _, _, _, _⟩) (news := (L + 1, c1) :: (L + 2, c2') :: (L + 3, c3') :: (234, tabObj #[]) :: plains nx) e4 k5 d1 (.head _) (.tail _ (.tail _ (.tail _ (.tail _ (inP _ hal list_plain))))) z10 (fun v hv' => (hv v hv').plain fun p hp hq => .tail _ (.tail _ (.tail _ (.tail _ (inP p hp hq))))) (.tail _ (.tail _ (.tail _ (.tail _ (RP _ hwl))))) (fun v hv' => (hw v hv').mono fun p hp => .tail _ (.tail _ (.tail _ (.tail _ (RP p hp))))) hw1 hw5 (off_cons (Nat.ne_of_lt (by omega)) (off_cons (Nat.ne_of_lt (by omega)) (off_cons (Nat.ne_of_lt (by omega)) (off_cons t4 p4)))) (off_cons (Nat.ne_of_lt (by omega)) (off_cons (Nat.ne_of_lt (by omega)) (off_cons (Nat.ne_of_lt (by omega)) (off_cons t5' p5)))) (kp3.at (kp2.at (kp1.at l_wanted))) (kp3.at (kp2.at (kp1.at l_deep))) B F3 X (nsub N3 (sub_cons (.head _) (sub_cons (.tail _ (hsub _ (.tail _ (.tail _ (.tail _ (.head _)))))) (sub_cons (.tail _ (hsub _ (.head _))) (sub_cons (.tail _ (hsub _ (.tail _ (.head _)))) (sub_cons (.tail _ (hsub _ (.tail _ (.tail _ (.head _))))) (sub_cons (.tail _ (hsub _ (.tail _ (.tail _ (.tail _ (.tail _ (.head _))))))) (fun q hq => .tail _ (mem_plains.mp hq).1)))))))) T hd hu (fun n4 h4 tk4 wl2 ws2 kw2 al2 vs2 ka2 c42 nx2 e42 hal2 z2 hv2 hwl2 w21 w25 hw2 hsub2 hpl2 kp4 l4 F4 N4 => ?_))
  dsimp only
  refine wpAny_execs_nil (ret n4 h4 tk4 c2' c3' c42 wl2 ws2 kw2 al2 vs2 ka2 (plains nx2) ⟨_, e2⟩ ⟨_, e3⟩ e42 (fun p hp => (mem_plains.mp hp).2) (mem_plains.mpr ⟨hwl2, list_plain⟩) w21 w25 (fun v hv' => (hw2 v hv').plain fun p hp hq => mem_plains.mpr ⟨hp, hq⟩) (mem_plains.mpr ⟨hal2, list_plain⟩) z2 (fun v hv' => (hv2 v hv').plain fun p hp hq => mem_plains.mpr ⟨hp, hq⟩) l4 F4 (nsub N4 (sub_cons (.tail _ (hsub2 _ (.head _))) (sub_cons (.tail _ (hsub2 _ (.tail _ (.head _)))) (sub_cons (.tail _ (hsub2 _ (.tail _ (.tail _ (.head _))))) (sub_cons (.head _) (sub_cons (.tail _ (hsub2 _ (.tail _ (.tail _ (.tail _ (.head _)))))) (fun q hq => .tail _ (mem_plains.mp hq).1))))))))
theorem EntIn.plain {P : Params} {a a' : List (Addr × Obj)} {x : Addr} {b : Array UInt8} {mk : Int} (h : EntIn P a x b mk) (hs : ∀ p ∈ a, Plain p.2 → p ∈ a') : EntIn P a' x b mk := by
  obtain ⟨a, v, od, par, h⟩ := h
  exact ⟨a, v, od, par, h.1, hs _ h.2.1 inst_plain, hs _ h.2.2.1 h.1.plain, hs _ h.2.2.2.1 inst_plain, hs _ h.2.2.2.2.1 dict_plain, hs _ h.2.2.2.2.2 ba_plain⟩
theorem not_plain_cell {c : Obj} (h : IsCell c) : ¬ Plain c := fun q => by obtain ⟨v, hv⟩ := h; exact q.1 v hv
theorem not_plain_tab {ps : Array Value} : ¬ Plain (tabObj ps) := fun q => q.2 rfl
noncomputable abbrev five (L : Addr) (c1 c2 c3 c4 : Obj) : List (Addr × Obj) := [(L + 1, c1), (L + 2, c2), (L + 3, c3), (L + 4, c4), (234, tabObj #[])]
theorem five_not {L : Addr} {c1 c2 c3 c4 : Obj} (k1 : IsCell c1) (k2 : IsCell c2) (k3 : IsCell c3) (k4 : IsCell c4) : ∀ p ∈ five L c1 c2 c3 c4, ¬ Plain p.2 := fun p hp => by
  rcases List.mem_cons.mp hp with rfl | hp
  · exact not_plain_cell k1
  rcases List.mem_cons.mp hp with rfl | hp
  · exact not_plain_cell k2
  rcases List.mem_cons.mp hp with rfl | hp
  · exact not_plain_cell k3
  rcases List.mem_cons.mp hp with rfl | hp
  · exact not_plain_cell k4
  rcases List.mem_cons.mp hp with rfl | hp
  · exact not_plain_tab
  · cases hp
/-- the state from which the loops start -/
theorem stC_dir {P : Params} {h : Heap} {px pdx pl al fl gl : Addr} {od : Obj} {ents : List Ent} {k n1 n2 n3 : Nat} {c1 c2 c3 c4 : Obj} {av : List Value} {R nw nw1 nw2 : List (Addr × Obj)} {asd : List Str} (k1 : IsCell c1) (k2 : IsCell c2) (k3 : IsCell c3) (k4 : IsCell c4) (hR : ∀ p ∈ R, Plain p.2)
    (N : News h₀ L h (dirL px pdx pl od ents k ++ ([(al, W.listOf av.toArray n3)] ++ (nw2 ++ (nw1 ++ (nw ++ (five L c1 c2 c3 c4 ++ R))))))) (d : DirSt P px pdx pl od ents [(al, W.listOf av.toArray n3)] (nw2 ++ (nw1 ++ (nw ++ (five L c1 c2 c3 c4 ++ R)))) [] [] asd)
    (f0 : FreshL (five L c1 c2 c3 c4 ++ R) nw) (f1 : FreshL (nw ++ (five L c1 c2 c3 c4 ++ R)) nw1) (f2 : FreshL (nw1 ++ (nw ++ (five L c1 c2 c3 c4 ++ R))) nw2)
    (lf : ∀ p ∈ dirL px pdx pl od ents k ++ ([(al, W.listOf av.toArray n3)] ++ (nw2 ++ (nw1 ++ (nw ++ (five L c1 c2 c3 c4 ++ R))))), p.1 < fl) (lg : ∀ p ∈ dirL px pdx pl od ents k ++ ([(al, W.listOf av.toArray n3)] ++ (nw2 ++ (nw1 ++ (nw ++ (five L c1 c2 c3 c4 ++ R))))), p.1 < gl) (lfg : @LT.lt Nat _ fl gl) :
    Nd5 fl gl L [] ∧ DirSt P px pdx pl od ents (ext5 fl gl [] [] n1 n2 #[] L c2 c3 []) ((al, W.listOf av.toArray n3) :: (L + 4, c4) :: (nw2 ++ (nw1 ++ (nw ++ R)))) [] [] asd := by
  have in5 : ∀ p ∈ five L c1 c2 c3 c4, p ∈ nw2 ++ (nw1 ++ (nw ++ (five L c1 c2 c3 c4 ++ R))) := fun p hp => List.mem_append_right _ (List.mem_append_right _ (List.mem_append_right _ (List.mem_append_left _ hp)))
  have all : ∀ p ∈ nw2 ++ (nw1 ++ (nw ++ (five L c1 c2 c3 c4 ++ R))), p ∈ dirL px pdx pl od ents k ++ ([(al, W.listOf av.toArray n3)] ++ (nw2 ++ (nw1 ++ (nw ++ (five L c1 c2 c3 c4 ++ R))))) := fun p hp => List.mem_append_right _ (.tail _ hp)
  have a1 : (L + 1, c1) ∈ five L c1 c2 c3 c4 := .head _
  have a2 : (L + 2, c2) ∈ five L c1 c2 c3 c4 := .tail _ (.head _)
  have a3 : (L + 3, c3) ∈ five L c1 c2 c3 c4 := .tail _ (.tail _ (.head _))
  have a4 : (L + 4, c4) ∈ five L c1 c2 c3 c4 := .tail _ (.tail _ (.tail _ (.head _)))
  have a5 : (234, tabObj #[]) ∈ five L c1 c2 c3 c4 := .tail _ (.tail _ (.tail _ (.tail _ (.head _))))
  have t2 := tab_cell N (all _ (in5 _ a5)) (all _ (in5 _ a2)) k2
  have t3 := tab_cell N (all _ (in5 _ a5)) (all _ (in5 _ a3)) k3
  have t4 := tab_cell N (all _ (in5 _ a5)) (all _ (in5 _ a4)) k4
  have back : ∀ p ∈ nw2 ++ (nw1 ++ (nw ++ R)), p ∈ nw2 ++ (nw1 ++ (nw ++ (five L c1 c2 c3 c4 ++ R))) := fun p hp => by
    rcases List.mem_append.mp hp with hp | hp
    · exact List.mem_append_left _ hp
    rcases List.mem_append.mp hp with hp | hp
    · exact List.mem_append_right _ (List.mem_append_left _ hp)
    rcases List.mem_append.mp hp with hp | hp
    · exact List.mem_append_right _ (List.mem_append_right _ (List.mem_append_left _ hp))
    · exact List.mem_append_right _ (List.mem_append_right _ (List.mem_append_right _ (List.mem_append_right _ hp)))
  -- the rest lies apart from a cell or the table
  have ap5 : ∀ q ∈ five L c1 c2 c3 c4, ((IsCell q.2) ∨ ∃ ps, q.2 = tabObj ps) → ∀ p ∈ nw2 ++ (nw1 ++ (nw ++ R)), p.1 ≠ q.1 := fun q hq hk p hp => by
    rcases List.mem_append.mp hp with hp | hp
    · exact Ne.symm (Nat.ne_of_lt ((f2 p hp).1 q (List.mem_append_right _ (List.mem_append_right _ (List.mem_append_left _ hq)))))
    rcases List.mem_append.mp hp with hp | hp
    · exact Ne.symm (Nat.ne_of_lt ((f1 p hp).1 q (List.mem_append_right _ (List.mem_append_left _ hq))))
    rcases List.mem_append.mp hp with hp | hp
    · exact Ne.symm (Nat.ne_of_lt ((f0 p hp).1 q (List.mem_append_left _ hq)))
    · exact plain_off (a := q.1) (c := q.2) N (all _ (in5 _ hq)) hk p (all _ (List.mem_append_right _ (List.mem_append_right _ (List.mem_append_right _ (List.mem_append_right _ hp))))) (hR p hp)
  have alo : ∀ q ∈ five L c1 c2 c3 c4, al ≠ q.1 := fun q hq => Ne.symm (d.ap _ (.head _) q (in5 _ hq))
  have g5 : ∀ q ∈ five L c1 c2 c3 c4, @LT.lt Nat _ q.1 fl ∧ @LT.lt Nat _ q.1 gl := fun q hq => ⟨lf _ (all _ (in5 _ hq)), lg _ (all _ (in5 _ hq))⟩
  have inR : ∀ p ∈ ((al, W.listOf av.toArray n3) :: (L + 4, c4) :: (nw2 ++ (nw1 ++ (nw ++ R)))), @LT.lt Nat _ p.1 fl ∧ @LT.lt Nat _ p.1 gl := fun p hp => by
    rcases List.mem_cons.mp hp with rfl | hp
    · exact ⟨lf _ (List.mem_append_right _ (.head _)), lg _ (List.mem_append_right _ (.head _))⟩
    rcases List.mem_cons.mp hp with rfl | hp
    · exact g5 _ a4
    · exact ⟨lf _ (all _ (back p hp)), lg _ (all _ (back p hp))⟩
  have ltd : ∀ p ∈ dirL px pdx pl od ents k, @LT.lt Nat _ p.1 fl ∧ @LT.lt Nat _ p.1 gl := fun p hp => ⟨lf _ (List.mem_append_left _ hp), lg _ (List.mem_append_left _ hp)⟩
  have dpl := ltd _ (.head _)
  have dpx := ltd _ (.tail _ (.head _))
  have dpd := ltd _ (.tail _ (.tail _ (.head _)))
  refine ⟨⟨Nat.ne_of_lt lfg, Ne.symm (Nat.ne_of_lt (g5 _ a5).1), Ne.symm (Nat.ne_of_lt (g5 _ a5).2), Ne.symm (Nat.ne_of_lt (g5 _ a2).1), Ne.symm (Nat.ne_of_lt (g5 _ a3).1), Ne.symm (Nat.ne_of_lt (g5 _ a2).2), Ne.symm (Nat.ne_of_lt (g5 _ a3).2), t2, t3, fun _ h => nomatch h⟩, d.ok, fun q hq => ?_, fun q hq => ?_, fun p hp q hq => ?_, fun e he => ?_, d.tl⟩
  · rcases List.mem_cons.mp hq with rfl | hq
    · exact d.ofx _ (.head _)
    rcases List.mem_cons.mp hq with rfl | hq
    · exact d.off _ (in5 _ a4)
    · exact d.off q (back q hq)
  · rcases List.mem_cons.mp hq with rfl | hq
    · exact ⟨Ne.symm (Nat.ne_of_lt dpl.1), Ne.symm (Nat.ne_of_lt dpx.1), Ne.symm (Nat.ne_of_lt dpd.1)⟩
    rcases List.mem_cons.mp hq with rfl | hq
    · exact ⟨Ne.symm (Nat.ne_of_lt dpl.2), Ne.symm (Nat.ne_of_lt dpx.2), Ne.symm (Nat.ne_of_lt dpd.2)⟩
    rcases List.mem_cons.mp hq with rfl | hq
    · exact d.off _ (in5 _ a5)
    rcases List.mem_cons.mp hq with rfl | hq
    · exact d.off _ (in5 _ a2)
    rcases List.mem_cons.mp hq with rfl | hq
    · exact d.off _ (in5 _ a3)
    · cases hq
  · rcases List.mem_cons.mp hp with rfl | hp
    · exact Nat.ne_of_lt (inR q hq).1
    rcases List.mem_cons.mp hp with rfl | hp
    · exact Nat.ne_of_lt (inR q hq).2
    rcases List.mem_cons.mp hp with rfl | hp
    · rcases List.mem_cons.mp hq with rfl | hq
      · exact alo _ a5
      rcases List.mem_cons.mp hq with rfl | hq
      · exact Ne.symm t4
      · exact ap5 _ a5 (.inr ⟨_, rfl⟩) q hq
    rcases List.mem_cons.mp hp with rfl | hp
    · rcases List.mem_cons.mp hq with rfl | hq
      · exact alo _ a2
      rcases List.mem_cons.mp hq with rfl | hq
      · exact Nat.ne_of_gt (Nat.add_lt_add_left (show 2 < 4 by decide) L)
      · exact ap5 _ a2 (.inl k2) q hq
    rcases List.mem_cons.mp hp with rfl | hp
    · rcases List.mem_cons.mp hq with rfl | hq
      · exact alo _ a3
      rcases List.mem_cons.mp hq with rfl | hq
      · exact Nat.ne_of_gt (Nat.add_lt_add_left (show 3 < 4 by decide) L)
      · exact ap5 _ a3 (.inl k3) q hq
    · cases hp
  · obtain ⟨hE, hb⟩ := d.es e he
    refine ⟨hE.plain fun p hp hpl => .tail _ (.tail _ ?_), hb⟩
    rcases List.mem_append.mp hp with hp | hp
    · exact List.mem_append_left _ hp
    rcases List.mem_append.mp hp with hp | hp
    · exact List.mem_append_right _ (List.mem_append_left _ hp)
    rcases List.mem_append.mp hp with hp | hp
    · exact List.mem_append_right _ (List.mem_append_right _ (List.mem_append_left _ hp))
    rcases List.mem_append.mp hp with hp | hp
    · exact absurd hpl (five_not k1 k2 k3 k4 p hp)
    · exact List.mem_append_right _ (List.mem_append_right _ (List.mem_append_right _ hp))
theorem stC {QF : Flow → Shared → Prop} {fa cd wl : Addr} {ws : List Value} {kw : Nat} {c1 c2 c3 c4 : Obj} {fv : Int} {tf : Tok} {R : List (Addr × Obj)} (d1 : c1.data = .cell (some (.int fv tf))) (k2 : IsCell c2) (k3 : IsCell c3) (k4 : IsCell c4) (hR : ∀ p ∈ R, Plain p.2) (hwl : (wl, W.listOf ws.toArray kw) ∈ R) (hw1 : 1 ≤ ws.length) (hw5 : ws.length ≤ 5) (hw : ∀ v ∈ ws, WantV R v) (l_wanted : m (Str.ofString "wanted") = some (.ref wl)) (B : Below A₀ h₀ [] h₀) (F : Fr h₀ L s.heap m) (X : (KK w.params).In h₀) (N : News h₀ L s.heap (five L c1 c2 c3 c4 ++ R)) (T : Top VW LO mean mg mb h₀) (hd : dp + 100 < recursionLimit) (hu : un + 1000 < cLine)
    (ret : ∀ m' h' tk' px pdx pl od ents k fl gl n1 n2 al av n3 asd R', (al, W.listOf av.toArray n3) ∈ R' → StrsAre av asd → (∀ p ∈ R, p ∈ R') → (L + 4, c4) ∈ R' → ents.length ≤ 2 → Nd5 fl gl L [] → DirSt w.params px pdx pl od ents (ext5 fl gl [] [] n1 n2 #[] L c2 c3 []) R' [] [] asd → m' (Str.ofString "wanted") = some (.ref wl) → m' (Str.ofString "parent") = some (.ref px) → m' (Str.ofString "aside") = some (.ref al) → m' (Str.ofString "folders") = some (.ref fl) → m' (Str.ofString "files") = some (.ref gl) → Fr h₀ L h' m' → News h₀ L h' (dirL px pdx pl od ents k ++ (ext5 fl gl [] [] n1 n2 #[] L c2 c3 [] ++ R')) → QF .next { s with heap := h', toks := tk' }) :
    wpC (model PR w) (LA dp un L fa cd) (execs [a9, a10, a11, a12, a13, a14] (LE L fa cd)) QF s := by
  refine wpC_execs_cons (g9_parent B F X N T hd hu (fun q1 h1 tk1 px pdx pl od nw ok off f0 lt0 kp1 l1 F1 N1 => ?_))
  dsimp only
  refine wpC_execs_cons (wpC_of (g10_aside (s := ⟨_, _, _, _, _⟩) B F1 X N1 T hd hu (fun q2 h2 tk2 al n lt2 kp2 l2 F2 N2 => ?_)))
  dsimp only
  have in1 : ∀ p ∈ five L c1 c2 c3 c4, p ∈ nw ++ (five L c1 c2 c3 c4 ++ R) := fun p hp => List.mem_append_right _ (List.mem_append_left _ hp)
  have inR : ∀ p ∈ R, p ∈ nw ++ (five L c1 c2 c3 c4 ++ R) := fun p hp => List.mem_append_right _ (List.mem_append_right _ hp)
  have dst : DirSt w.params px pdx pl od [] [(al, W.listOf ([] : List Value).toArray n)] (nw ++ (five L c1 c2 c3 c4 ++ R)) [] [] [] := by
    refine ⟨ok, off, fun q hq => ?_, fun p hp q hq => ?_, (fun _ h => nomatch h), .nil⟩
    · rw [List.mem_singleton.mp hq]
      exact ⟨Ne.symm (Nat.ne_of_lt (lt2 _ (List.mem_append_left _ (.head _)))), Ne.symm (Nat.ne_of_lt (lt2 _ (List.mem_append_left _ (.tail _ (.head _))))), Ne.symm (Nat.ne_of_lt (lt2 _ (List.mem_append_left _ (.tail _ (.tail _ (.head _))))))⟩
    · rw [List.mem_singleton.mp hp]
      exact Nat.ne_of_lt (lt2 q (List.mem_append_right _ hq))
  refine wpC_execs_cons (g11_if (s := ⟨_, _, _, _, _⟩) d1 (in1 _ (.head _)) .nil (Nat.zero_le _) (Nat.zero_le _) dst (inR _ hwl) (fun v hv => (hw v hv).mono inR) hw1 hw5 l2 (kp2.at l1) (kp2.at (kp1.at l_wanted)) B F2 X (dir_in N2) T hd hu (fun h3 tk3 od3 ents3 k3' nw1 av3 n3 asd3 s3 z3 e3 dst3 f1 F3 N3 => ?_))
  dsimp only
  refine wpC_execs_cons (g12_if (s := ⟨_, _, _, _, _⟩) d1 (List.mem_append_right _ (in1 _ (.head _))) s3 (Nat.le_trans z3 (by decide)) (Nat.le_trans e3 (by decide)) dst3 l2 (kp2.at l1) B F3 X N3 T hd hu (fun h4 tk4 od4 ents4 k4' nw2 av4 n4 asd4 s4 z4 e4 dst4 f2 F4 N4 => ?_))
  dsimp only
  refine wpC_execs_cons (wpC_of (g13_folders (s := ⟨_, _, _, _, _⟩) B F4 X N4 T hd hu (fun q5 h5 tk5 fl n5 lt5 kp5 l5 F5 N5 => ?_)))
  dsimp only
  refine wpC_execs_cons (wpC_of (g14_files (s := ⟨_, _, _, _, _⟩) B F5 X N5 T hd hu (fun q6 h6 tk6 gl n6 lt6 kp6 l6 F6 N6 => ?_)))
  dsimp only
  have N4' : News h₀ L h6 (dirL px pdx pl od4 ents4 k4' ++ ([(al, W.listOf av4.toArray n4)] ++ (nw2 ++ (nw1 ++ (nw ++ (five L c1 c2 c3 c4 ++ R)))))) := fun p hp => N6 p (.tail _ (.tail _ hp))
  obtain ⟨nd, dst5⟩ := stC_dir (n1 := n5) (n2 := n6) ⟨_, d1⟩ k2 k3 k4 hR N4' dst4 f0 f1 f2 lt5 (fun p hp => lt6 p (.tail _ hp)) (lt6 _ (.head _))
  have inL : ∀ p ∈ nw2 ++ (nw1 ++ (nw ++ (five L c1 c2 c3 c4 ++ R))), p ∈ (gl, W.listOf #[] n6) :: (fl, W.listOf #[] n5) :: (dirL px pdx pl od4 ents4 k4' ++ ([(al, W.listOf av4.toArray n4)] ++ (nw2 ++ (nw1 ++ (nw ++ (five L c1 c2 c3 c4 ++ R)))))) := fun p hp => .tail _ (.tail _ (List.mem_append_right _ (.tail _ hp)))
  have in5 : ∀ p ∈ five L c1 c2 c3 c4, p ∈ nw2 ++ (nw1 ++ (nw ++ (five L c1 c2 c3 c4 ++ R))) := fun p hp => List.mem_append_right _ (List.mem_append_right _ (in1 p hp))
  refine wpC_execs_nil (ret q6 h6 tk6 px pdx pl od4 ents4 k4' fl gl n5 n6 al av4 n4 asd4 _ (.head _) s4 (fun p hp => .tail _ (.tail _ (List.mem_append_right _ (List.mem_append_right _ (List.mem_append_right _ hp))))) (.tail _ (.head _)) (Nat.le_trans e4 (Nat.succ_le_succ e3)) nd dst5 (kp6.at (kp5.at (kp2.at (kp1.at l_wanted)))) (kp6.at (kp5.at (kp2.at l1))) (kp6.at (kp5.at l2)) (kp6.at l5) l6 F6 (fun p hp => N6 p ?_))
  rcases List.mem_append.mp hp with hp | hp
  · exact .tail _ (.tail _ (List.mem_append_left _ hp))
  rcases List.mem_append.mp hp with hp | hp
  · rcases List.mem_cons.mp hp with rfl | hp
    · exact .tail _ (.head _)
    rcases List.mem_cons.mp hp with rfl | hp
    · exact .head _
    refine inL p (in5 p ?_)
    rcases List.mem_cons.mp hp with rfl | hp
    · exact .tail _ (.tail _ (.tail _ (.tail _ (.head _))))
    rcases List.mem_cons.mp hp with rfl | hp
    · exact .tail _ (.head _)
    rcases List.mem_cons.mp hp with rfl | hp
    · exact .tail _ (.tail _ (.head _))
    · cases hp
  rcases List.mem_cons.mp hp with rfl | hp
  · exact .tail _ (.tail _ (List.mem_append_right _ (.head _)))
  rcases List.mem_cons.mp hp with rfl | hp
  · exact inL _ (in5 _ (.tail _ (.tail _ (.tail _ (.head _)))))
  refine inL p ?_
  rcases List.mem_append.mp hp with hp | hp
  · exact List.mem_append_left _ hp
  rcases List.mem_append.mp hp with hp | hp
  · exact List.mem_append_right _ (List.mem_append_left _ hp)
  rcases List.mem_append.mp hp with hp | hp
  · exact List.mem_append_right _ (List.mem_append_right _ (List.mem_append_left _ hp))
  · exact List.mem_append_right _ (List.mem_append_right _ (inR p hp))
theorem to15 {h : Heap} {px pdx pl fl gl : Addr} {od : Obj} {ents : List Ent} {k n1 n2 : Nat} {fv gv : List Value} {ps : Array Value} {c2 c3 : Obj} {R : List (Addr × Obj)} (N : News h₀ L h (dirL px pdx pl od ents k ++ (ext5 fl gl fv gv n1 n2 ps L c2 c3 [] ++ R))) : News h₀ L h (dirL px pdx pl od ents k ++ (((gl, W.listOf gv.toArray n2) :: [(fl, W.listOf fv.toArray n1), (234, tabObj ps), (L + 2, c2), (L + 3, c3)]) ++ R)) := fun p hp => by
  revert p hp
  exact all_a (fun p hp => N p (List.mem_append_left _ hp)) (all_c (N _ (List.mem_append_right _ (.tail _ (.head _)))) (all_c (N _ (List.mem_append_right _ (.head _))) (fun p hp => N p (List.mem_append_right _ (.tail _ (.tail _ hp))))))
theorem of15 {h : Heap} {px pdx pl fl gl : Addr} {od : Obj} {ents : List Ent} {k n1 n2 : Nat} {fv gv : List Value} {ps : Array Value} {c2 c3 : Obj} {R : List (Addr × Obj)} (N : News h₀ L h (dirL px pdx pl od ents k ++ (((gl, W.listOf gv.toArray n2) :: [(fl, W.listOf fv.toArray n1), (234, tabObj ps), (L + 2, c2), (L + 3, c3)]) ++ R))) : News h₀ L h (dirL px pdx pl od ents k ++ (ext5 fl gl fv gv n1 n2 ps L c2 c3 [] ++ R)) := fun p hp => by
  revert p hp
  exact all_a (fun p hp => N p (List.mem_append_left _ hp)) (all_c (N _ (List.mem_append_right _ (.tail _ (.head _)))) (all_c (N _ (List.mem_append_right _ (.head _))) (fun p hp => N p (List.mem_append_right _ (.tail _ (.tail _ hp))))))
theorem swap15 {fl gl L : Addr} {fv gv fv' gv' : List Value} {n1 n2 n1' n2' : Nat} {ps ps' : Array Value} {c2 c3 c2' c3' : Obj} : ∀ q ∈ ((gl, W.listOf gv'.toArray n2') :: [(fl, W.listOf fv'.toArray n1'), (234, tabObj ps'), (L + 2, c2'), (L + 3, c3')]), ∃ p ∈ ext5 fl gl fv gv n1 n2 ps L c2 c3 [], p.1 = q.1 := fun q hq => by
  revert q hq
  exact all_c (⟨_, .tail _ (.head _), rfl⟩) (all_c (⟨_, .head _, rfl⟩) (all_c (⟨_, .tail _ (.tail _ (.head _)), rfl⟩) (all_c (⟨_, .tail _ (.tail _ (.tail _ (.head _))), rfl⟩) (all_c (⟨_, .tail _ (.tail _ (.tail _ (.tail _ (.head _)))), rfl⟩) all_n))))
theorem unswap15 {fl gl L : Addr} {fv gv fv' gv' : List Value} {n1 n2 n1' n2' : Nat} {ps ps' : Array Value} {c2 c3 c2' c3' : Obj} : ∀ q ∈ ext5 fl gl fv gv n1 n2 ps L c2 c3 [], ∃ p ∈ ((gl, W.listOf gv'.toArray n2') :: [(fl, W.listOf fv'.toArray n1'), (234, tabObj ps'), (L + 2, c2'), (L + 3, c3')]), p.1 = q.1 := fun q hq => by
  revert q hq
  exact all_c (⟨_, .tail _ (.head _), rfl⟩) (all_c (⟨_, .head _, rfl⟩) (all_c (⟨_, .tail _ (.tail _ (.head _)), rfl⟩) (all_c (⟨_, .tail _ (.tail _ (.tail _ (.head _))), rfl⟩) (all_c (⟨_, .tail _ (.tail _ (.tail _ (.tail _ (.head _)))), rfl⟩) all_n))))
theorem stD {QF : Flow → Shared → Prop} {fa cd wl al a2 px pdx pl fl gl : Addr} {od : Obj} {ents : List Ent} {k kw ka n1 n2 n3 : Nat} {ws vs av : List Value} {c2 c3 c4 : Obj} {asd : List Str} {R : List (Addr × Obj)} (k2 : IsCell c2) (k3 : IsCell c3) (d4 : c4.data = .cell (some (.ref a2))) (hwl : (wl, W.listOf ws.toArray kw) ∈ R) (hw1 : 1 ≤ ws.length) (hw5 : ws.length ≤ 5) (hw : ∀ v ∈ ws, WantV R v) (ha2 : (a2, W.listOf vs.toArray ka) ∈ R) (hvs : vs.length ≤ 10) (hv : ∀ v ∈ vs, AheadV R v)
    (hal : (al, W.listOf av.toArray n3) ∈ R) (sa : StrsAre av asd) (m4 : (L + 4, c4) ∈ R) (hz : ents.length ≤ 2) (nd : Nd5 fl gl L []) (d : DirSt w.params px pdx pl od ents (ext5 fl gl [] [] n1 n2 #[] L c2 c3 []) R [] [] asd) (l_wanted : m (Str.ofString "wanted") = some (.ref wl)) (l_parent : m (Str.ofString "parent") = some (.ref px)) (l_aside : m (Str.ofString "aside") = some (.ref al)) (l_folders : m (Str.ofString "folders") = some (.ref fl)) (l_files : m (Str.ofString "files") = some (.ref gl)) (B : Below A₀ h₀ [] h₀) (F : Fr h₀ L s.heap m) (X : (KK w.params).In h₀) (N : News h₀ L s.heap (dirL px pdx pl od ents k ++ (ext5 fl gl [] [] n1 n2 #[] L c2 c3 [] ++ R))) (T : Top VW LO mean mg mb h₀) (hd : dp + 100 < recursionLimit) (hu : un + 1000 < cLine)
    (ret : ∀ m' h' tk' ps, Fr h₀ L h' m' → h'.get? 234 = some (tabObj ps) → QF (.ret (.bool true)) { s with heap := h', toks := tk' }) :
    wpC (model PR w) (LA dp un L fa cd) (execs [a15, a16, a17, a18] (LE L fa cd)) QF s := by
  obtain ⟨x1, x2, x3, x4, x5, x6, x7, x8, x9, _⟩ := id nd
  refine wpC_execs_cons (g15_loop d4 m4 ha2 hvs hv (vals := []) .nil (Nat.zero_le _) (Nat.le_trans hz (by decide)) (d.swap (ext' := (gl, W.listOf ([] : List Value).toArray n2) :: [(fl, W.listOf ([] : List Value).toArray n1), (234, tabObj #[]), (L + 2, c2), (L + 3, c3)]) swap15) (off_cons x1 (off_cons (Ne.symm x3) (off_cons (Ne.symm x6) (off_cons (Ne.symm x7) off_nil)))) l_files l_parent B F X (to15 N) T hd hu (fun q1 h1 tk1 od1 ents1 k1' nw gv n2' gs s1 z1 e1 d1 pn kp1 F1 N1 => ?_))
  dsimp only
  have inR : ∀ p ∈ R, p ∈ nw ++ R := fun p hp => List.mem_append_right _ hp
  obtain ⟨v2, k2⟩ := k2
  obtain ⟨v3, k3⟩ := k3
  have z1' : gs.length ≤ 10 := Nat.le_trans z1 (by show 0 + 10 ≤ 10; decide)
  refine wpC_execs_cons (g16_loop (s := ⟨_, _, _, _, _⟩) .nil s1 (Nat.zero_le _) (by omega) (by omega) (d1.swap unswap15) nd (.inl rfl) k2 k3 (inR _ hwl) hw5 (fun v hv' => (hw v hv').mono inR) (kp1.at l_wanted) (kp1.at l_parent) (kp1.at l_folders) (kp1.at l_files) B F1 X (of15 N1) T hd hu (fun q2 h2 tk2 od2 ents2 k2' fv3 n13 fs3 gv3 n23 gs3 ps3 c23 c33 R3 hR3 sf3 sg3 zf3 zg3 ze3 d3 tb3 kp2 F2 N2 => ?_))
  dsimp only
  have inR3 : ∀ p ∈ R, p ∈ dirL px pdx pl od2 ents2 k2' ++ (ext5 fl gl fv3 gv3 n13 n23 ps3 L c23 c33 [] ++ R3) := fun p hp => List.mem_append_right _ (List.mem_append_right _ (hR3 p (inR p hp)))
  obtain ⟨t0, wr, rfl⟩ : ∃ t0 wr, ws = t0 :: wr := by
    cases ws with
    | nil => exact absurd hw1 (by decide)
    | cons a b => exact ⟨a, b, rfl⟩
  obtain ⟨tl, x, b, y, mk, q1', q2', q3', q4', rfl, htl, _⟩ := hw t0 (.head _)
  have he : ∀ e ∈ ents2, EntOk w.params (dirL px pdx pl od2 ents2 k2' ++ (ext5 fl gl fv3 gv3 n13 n23 ps3 L c23 c33 [] ++ R3)) e := fun e he => (d3.es e he).mono fun p hp => List.mem_append_right _ (List.mem_append_right _ hp)
  have ln : ents2.length ≤ 64 := by omega
  refine wpC_execs_cons (g17_try (s := ⟨_, _, _, _, _⟩) (d3.ok.at (k := k2') fun p hp => List.mem_append_left _ hp) (List.mem_append_left _ (.head _)) he ln (inR3 _ hwl) (Nat.le_trans (Nat.le_of_succ_le_succ hw5) (by decide)) (inR3 _ htl) (kp2.at (kp1.at l_parent)) (kp2.at (kp1.at l_wanted)) B F2 X N2 T hd hu (fun q4 h4 tk4 t di fi sp nt nd' nf ns kp4 l4 F4 N4 => ?_))
  dsimp only
  have up : ∀ {p : Addr × Obj}, p ∈ dirL px pdx pl od2 ents2 k2' ++ (ext5 fl gl fv3 gv3 n13 n23 ps3 L c23 c33 [] ++ R3) → p ∈ ((t, ({ cls := .type "tuple", data := .seq #[.ref di, .ref fi, .ref sp] nt } : Obj)) :: (sp, W.listOf (sel 2 ents2).toArray ns) :: (fi, W.listOf (sel 1 ents2).toArray nf) :: (di, W.listOf (sel 0 ents2).toArray nd') :: (dirL px pdx pl od2 ents2 k2' ++ (ext5 fl gl fv3 gv3 n13 n23 ps3 L c23 c33 [] ++ R3))) := fun {p} hp => .tail _ (.tail _ (.tail _ (.tail _ hp)))
  refine wpC_execs_cons (wpC_of (g18_ret (s := ⟨_, _, _, _, _⟩) (.head _) (.tail _ (.head _)) (.tail _ (.tail _ (.head _))) (.tail _ (.tail _ (.tail _ (.head _)))) (fun e he' => (he e he').mono fun p hp => up hp) ln (up (List.mem_append_right _ (.head _))) (up (List.mem_append_right _ (.tail _ (.head _)))) (up (inR3 _ hal)) sf3 sg3 sa d3.tl l4 (kp4.at (kp2.at (kp1.at l_folders))) (kp4.at (kp2.at (kp1.at l_files))) (kp4.at (kp2.at (kp1.at l_aside))) B F4 X N4 T hd hu (fun h5 tk5 F5 N5 => ?_)))
  exact ret _ _ _ ps3 F5 (N5 _ (up (List.mem_append_right _ (.tail _ (.tail _ (.head _)))))).1
theorem law_body {QF : Flow → Shared → Prop} {fa cd sa : Addr} {vs : List Value} {ns : List Int} {c1 c2 c3 c4 c5 : Obj} (hs : h₀.IsList sa vs.toArray) (hi : IntsAre vs ns) (hz : ns.length ≤ 63) (k1 : IsCell c1) (k2 : IsCell c2) (k3 : IsCell c3) (k4 : IsCell c4) (k5 : IsCell c5) (l_script : m (Str.ofString "script") = some (.ref sa)) (B : Below A₀ h₀ [] h₀) (F : Fr h₀ L s.heap m) (X : (KK w.params).In h₀) (N : News h₀ L s.heap (cellsL L c1 c2 c3 c4 c5 #[])) (T : Top VW LO mean mg mb h₀) (hd : dp + 100 < recursionLimit) (hu : un + 1000 < cLine)
    (ret : ∀ m' h' tk' ps, Fr h₀ L h' m' → h'.get? 234 = some (tabObj ps) → QF (.ret (.bool true)) { s with heap := h', toks := tk' }) :
    wpC (model PR w) (LA dp un L fa cd) (execs f27B (LE L fa cd)) QF s := by
  show wpC _ _ (execs ([a0, a1, a2, a3, a4] ++ ([a5, a6, a7, a8] ++ ([a9, a10, a11, a12, a13, a14] ++ [a15, a16, a17, a18]))) _) _ _
  refine wpC_execs_app (wpC_of (stA hs hi hz k1 k2 k3 k4 k5 l_script B F X N T hd hu (fun q1 h1 tk1 c1' fv tf dv wl ws kw R d1 hR hwl w1 w5 hw ld lw F1 N1 => ?_)))
  dsimp only
  refine wpC_execs_app (wpC_of (stB (s := ⟨_, _, _, _, _⟩) d1 k2 k3 k4 k5 hR hwl w1 w5 hw ld lw B F1 X N1 T hd hu (fun q2 h2 tk2 c2' c3' c4' wl2 ws2 kw2 al2 vs2 ka2 R2 e2 e3 e4 hR2 hwl2 w12 w52 hw2 hal2 z2 hv2 lw2 F2 N2 => ?_)))
  dsimp only
  refine wpC_execs_app (stC (s := ⟨_, _, _, _, _⟩) d1 e2 e3 ⟨_, e4⟩ hR2 hwl2 w12 w52 hw2 lw2 B F2 X N2 T hd hu (fun q3 h3 tk3 px pdx pl od ents k fl gl n1 n2 al av n3 asd R3 m3 s3 sub3 m43 z3 nd3 d3 l1 l2 l3 l4 l5 F3 N3 => ?_))
  dsimp only
  exact stD (s := ⟨_, _, _, _, _⟩) e2 e3 e4 (sub3 _ hwl2) w12 w52 (fun v hv => (hw2 v hv).mono sub3) (sub3 _ hal2) z2 (fun v hv => (hv2 v hv).mono sub3) m3 s3 m43 z3 nd3 d3 l1 l2 l3 l4 l5 B F3 X N3 T hd hu (fun m' h' tk' ps F' e => ret m' h' tk' ps F' e)
theorem good_ghost {c : ClaimW} {cl : Str → Option Addr} {mean : ExcName → Option Value} {args : List WData} {s₁ s' : Shared} {ps : Array Value} (hT : TabsAt tabs1 s₁.heap) (hP : s'.heap.get? 234 = some (tabObj ps)) (g : GoodW c cl mean args { s₁ with heap := ghostOf s₁.heap tabs1 } (.ok (.ret (.bool true))) s') : GoodWG c cl mean args s₁ (.ok (.ret (.bool true))) s' := by
  obtain ⟨hc, hk, hos, hg⟩ := g
  have two : ∀ b o, s₁.heap.get? b = some o → (b = 234 ∧ o = tabObj #[]) ∨ s'.heap.get? b = some o := fun b o e => by
    by_cases hb : b = 234
    · subst hb
      have e2 := (hT (236, 234) (.head _)).2
      exact .inl ⟨rfl, Option.some.inj (e.symm.trans e2)⟩
    · exact .inr (hk b o (ghost_ne e fun hm => hb (List.mem_singleton.mp hm)))
  refine ⟨?_, ⟨fun b o e => ?_, fun b o e => ?_⟩, hos, .of_eq hg⟩
  · rcases hc with ⟨v, d, as, r1, r2, r3, r4, _⟩ | ⟨e, ob, x, r1, _⟩
    · cases r1
      cases r3
      exact .inl ⟨_, _, [], rfl, r2, .bool _, r4, fun _ => ⟨List.nodup_nil, fun _ h => nomatch h⟩⟩
    · cases r1
  · rcases two b o e with ⟨rfl, rfl⟩ | h
    · exact .inr (.inl ⟨((hT (236, 234) (.head _)).1.tab (hT (236, 234) (.head _)).2).isCodeTable, rfl, #[], ps, rfl, by rw [Array.empty_append]; exact hP⟩)
    · exact .inl h
  · rcases two b o e with ⟨rfl, _⟩ | h
    · exact ⟨_, hP⟩
    · exact ⟨o, h⟩
theorem walkC : WalkC VW LO (XL VW []) HK.says PySem.Challenge.rw_jj0020_01.row.toRowW lawD [] := by
  intro w s₀ s₁ mg mb G Y fa o pm cd doc dV kV ho hd hcd hD hmg hg args vals as hpre hlay hrd hwl hlo
  have KX := km_in_of Y
  have hT8 := km_tabs_of Y
  refine Ground.open G ?_
  intro T B D TE TW
  refine hideG fun Z hZ => ?_
  obtain ⟨_, _, he, B0⟩ := based_of_top T rfl hmg ho hd
  have he' : cd = _ := he
  subst he'
  clear he hmg
  refine hZ ?_
  clear hZ Z
  wrow_args hpre hlay hrd hwl hlo
  (rename IntsAre _ _ => hI); (rename Heap.IsList _ _ _ => hL); (rename ¬ _ < _ => hlen)
  obtain rfl := hD.none rfl
  obtain rfl := hD.noKw
  have hT : TabsAt tabs1 s₁.heap := fun q hq => by
    rw [List.mem_singleton.mp hq]
    exact ⟨codeHd_of_K KX (by kernel_rfl), hT8 234 (.head _)⟩
  refine wpC_call (callC_cells (name := lawD.name) (params := lawD.params) (body := lawD.body) (scope := lawD.scope) ?room ho hd T.nolimit hcd rfl ?kind (fun h₁ tk F C => ?_))
  case room => exact of_decide_eq_true rfl
  case kind =>
    intro x hx
    rcases List.mem_singleton.mp (show x ∈ [(Str.ofString "script", _)] from hx) with rfl
    exact .inl rfl
  have hlen' : _ ≤ (63 : Nat) := Nat.le_of_not_lt (fun e => hlen (by exact_mod_cast e))
  have new : ∀ i : Nat, 1 ≤ i → s₁.heap.get? (s₁.heap.objs.size + i) = none := fun i hi => by
    cases q : s₁.heap.get? (s₁.heap.objs.size + i) with
    | none => rfl
    | some o => exact absurd (Heap.lt_size q) (Nat.not_lt.mpr (Nat.le_add_right _ _))
  have off : ∀ i : Nat, 1 ≤ i → s₁.heap.objs.size + i ≠ s₁.heap.objs.size := fun i hi => Nat.ne_of_gt (Nat.lt_add_of_pos_right hi)
  refine hideG fun Z hZ => ?_
  obtain ⟨c1, g1, k1⟩ := C.cell (Str.ofString "first") (s₁.heap.objs.size + 1) rfl
  obtain ⟨c2, g2, k2⟩ := C.cell (Str.ofString "base") (s₁.heap.objs.size + 2) rfl
  obtain ⟨c3, g3, k3⟩ := C.cell (Str.ofString "tail") (s₁.heap.objs.size + 3) rfl
  obtain ⟨c4, g4, k4⟩ := C.cell (Str.ofString "ahead") (s₁.heap.objs.size + 4) rfl
  obtain ⟨c5, g5, k5⟩ := C.cell (Str.ofString "gap") (s₁.heap.objs.size + 5) rfl
  have N : News s₁.heap s₁.heap.objs.size h₁ [(s₁.heap.objs.size + 1, c1), (s₁.heap.objs.size + 2, c2), (s₁.heap.objs.size + 3, c3), (s₁.heap.objs.size + 4, c4), (s₁.heap.objs.size + 5, c5)] := fun p hp => by
    revert p hp
    exact all_c (⟨g1, off 1 (by decide), new 1 (by decide)⟩) (all_c (⟨g2, off 2 (by decide), new 2 (by decide)⟩) (all_c (⟨g3, off 3 (by decide), new 3 (by decide)⟩) (all_c (⟨g4, off 4 (by decide), new 4 (by decide)⟩) (all_c (⟨g5, off 5 (by decide), new 5 (by decide)⟩) all_n))))
  refine hZ ?_
  clear hZ Z
  refine law_body (s := { s₁ with heap := h₁, toks := tk }) (ghost_list hT hL) hI hlen' ⟨_, k1⟩ ⟨_, k2⟩ ⟨_, k3⟩ ⟨_, k4⟩ ⟨_, k5⟩ ?ls (ghost_below hT) (ghost_fr hT F) (ghost_K hT KX (by kernel_rfl)) (ghost_news hT F N) (ghost_T hT KX T) ?hd ?hu (fun m' h' tk' ps F' hP => ?_)
  case ls => rfl
  case hd => exact of_decide_eq_true rfl
  case hu => exact of_decide_eq_true rfl
  dsimp only
  have FK := F'.keep
  refine good_ghost hT hP ?_
  wrow_close
end Mine
theorem PySem.Challenge.cw_jj0020_01_holds : PySem.Challenge.rw_jj0020_01.Holds :=
  Mine.hdC Mine.walkC
