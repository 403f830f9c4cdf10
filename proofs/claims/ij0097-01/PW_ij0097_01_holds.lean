import PyProof.Rows.All
import Wide.All
import OpenK.AllK
import Wide.FinOn
import PySem.Challenge.RW_ij0097_01
set_option Elab.async false
set_option maxRecDepth 100000
set_option linter.unusedSimpArgs false
set_option linter.unusedVariables false
section -- Top1
open PySem PySem.W PyProof.Rows
namespace Mine
structure Is {α : Type} (s : α) : Prop where
  it : True
theorem Is.of {α : Type} (a s : α) (h : a = s) : Is s := ⟨trivial⟩
@[inline] def pick {α : Type} (s : α) (h : Is s) : α := s
abbrev pw := PySem.Challenge.pw_ij0097_01
set_option compiler.extract_closed false
def d_0 : Stmt := pick _ (Is.of (pw.main.body[0]'(by decide)) _ (by conv => lhs; whnf))
def d_1 : Stmt := pick _ (Is.of (pw.main.body[1]'(by decide)) _ (by conv => lhs; whnf))
def d_2 : Stmt := pick _ (Is.of (pw.main.body[2]'(by decide)) _ (by conv => lhs; whnf))
def d_3 : Stmt := pick _ (Is.of (pw.main.body[3]'(by decide)) _ (by conv => lhs; whnf))
def d_4 : Stmt := pick _ (Is.of (pw.main.body[4]'(by decide)) _ (by conv => lhs; whnf))
def d_5 : Stmt := pick _ (Is.of (pw.main.body[5]'(by decide)) _ (by conv => lhs; whnf))
def d_6 : Stmt := pick _ (Is.of (pw.main.body[6]'(by decide)) _ (by conv => lhs; whnf))
def d_7 : Stmt := pick _ (Is.of (pw.main.body[7]'(by decide)) _ (by conv => lhs; whnf))
def d_8 : Stmt := pick _ (Is.of (pw.main.body[8]'(by decide)) _ (by conv => lhs; whnf))
def d_9 : Stmt := pick _ (Is.of (pw.main.body[9]'(by decide)) _ (by conv => lhs; whnf))
def d_10 : Stmt := pick _ (Is.of (pw.main.body[10]'(by decide)) _ (by conv => lhs; whnf))
def d_11 : Stmt := pick _ (Is.of (pw.main.body[11]'(by decide)) _ (by conv => lhs; whnf))
def d_12 : Stmt := pick _ (Is.of (pw.main.body[12]'(by decide)) _ (by conv => lhs; whnf))
def d_13 : Stmt := pick _ (Is.of (pw.main.body[13]'(by decide)) _ (by conv => lhs; whnf))
def d_14 : Stmt := pick _ (Is.of (pw.main.body[14]'(by decide)) _ (by conv => lhs; whnf))
def d_15 : Stmt := pick _ (Is.of (pw.main.body[15]'(by decide)) _ (by conv => lhs; whnf))
def d_16 : Stmt := pick _ (Is.of (pw.main.body[16]'(by decide)) _ (by conv => lhs; whnf))
def d_17 : Stmt := pick _ (Is.of (pw.main.body[17]'(by decide)) _ (by conv => lhs; whnf))
def d_18 : Stmt := pick _ (Is.of (pw.main.body[18]'(by decide)) _ (by conv => lhs; whnf))
def d_19 : Stmt := pick _ (Is.of (pw.main.body[19]'(by decide)) _ (by conv => lhs; whnf))
def d_20 : Stmt := pick _ (Is.of (pw.main.body[20]'(by decide)) _ (by conv => lhs; whnf))
def d_21 : Stmt := pick _ (Is.of (pw.main.body[21]'(by decide)) _ (by conv => lhs; whnf))
def d_22 : Stmt := pick _ (Is.of (pw.main.body[22]'(by decide)) _ (by conv => lhs; whnf))
def d_23 : Stmt := pick _ (Is.of (pw.main.body[23]'(by decide)) _ (by conv => lhs; whnf))
def d_24 : Stmt := pick _ (Is.of (pw.main.body[24]'(by decide)) _ (by conv => lhs; whnf))
def d_25 : Stmt := pick _ (Is.of (pw.main.body[25]'(by decide)) _ (by conv => lhs; whnf))
def d_26 : Stmt := pick _ (Is.of (pw.main.body[26]'(by decide)) _ (by conv => lhs; whnf))
def d_27 : Stmt := pick _ (Is.of (pw.main.body[27]'(by decide)) _ (by conv => lhs; whnf))
def d_28 : Stmt := pick _ (Is.of (pw.main.body[28]'(by decide)) _ (by conv => lhs; whnf))
def d_29 : Stmt := pick _ (Is.of (pw.main.body[29]'(by decide)) _ (by conv => lhs; whnf))
def d_30 : Stmt := pick _ (Is.of (pw.main.body[30]'(by decide)) _ (by conv => lhs; whnf))
def d_31 : Stmt := pick _ (Is.of (pw.main.body[31]'(by decide)) _ (by conv => lhs; whnf))
def d_32 : Stmt := pick _ (Is.of (pw.main.body[32]'(by decide)) _ (by conv => lhs; whnf))
def d_33 : Stmt := pick _ (Is.of (pw.main.body[33]'(by decide)) _ (by conv => lhs; whnf))
def d_34 : Stmt := pick _ (Is.of (pw.main.body[34]'(by decide)) _ (by conv => lhs; whnf))
def d_35 : Stmt := pick _ (Is.of (pw.main.body[35]'(by decide)) _ (by conv => lhs; whnf))
def d_36 : Stmt := pick _ (Is.of (pw.main.body[36]'(by decide)) _ (by conv => lhs; whnf))
def d_37 : Stmt := pick _ (Is.of (pw.main.body[37]'(by decide)) _ (by conv => lhs; whnf))
def d_38 : Stmt := pick _ (Is.of (pw.main.body[38]'(by decide)) _ (by conv => lhs; whnf))
def d_39 : Stmt := pick _ (Is.of (pw.main.body[39]'(by decide)) _ (by conv => lhs; whnf))
def d_40 : Stmt := pick _ (Is.of (pw.main.body[40]'(by decide)) _ (by conv => lhs; whnf))
def d_41 : Stmt := pick _ (Is.of (pw.main.body[41]'(by decide)) _ (by conv => lhs; whnf))
def d_42 : Stmt := pick _ (Is.of (pw.main.body[42]'(by decide)) _ (by conv => lhs; whnf))
def d_43 : Stmt := pick _ (Is.of (pw.main.body[43]'(by decide)) _ (by conv => lhs; whnf))
def d_44 : Stmt := pick _ (Is.of (pw.main.body[44]'(by decide)) _ (by conv => lhs; whnf))
def d_45 : Stmt := pick _ (Is.of (pw.main.body[45]'(by decide)) _ (by conv => lhs; whnf))
def d_46 : Stmt := pick _ (Is.of (pw.main.body[46]'(by decide)) _ (by conv => lhs; whnf))
def d_47 : Stmt := pick _ (Is.of (pw.main.body[47]'(by decide)) _ (by conv => lhs; whnf))
def d_48 : Stmt := pick _ (Is.of (pw.main.body[48]'(by decide)) _ (by conv => lhs; whnf))
def d_49 : Stmt := pick _ (Is.of (pw.main.body[49]'(by decide)) _ (by conv => lhs; whnf))
def d_50 : Stmt := pick _ (Is.of (pw.main.body[50]'(by decide)) _ (by conv => lhs; whnf))
def d_51 : Stmt := pick _ (Is.of (pw.main.body[51]'(by decide)) _ (by conv => lhs; whnf))
def d_52 : Stmt := pick _ (Is.of (pw.main.body[52]'(by decide)) _ (by conv => lhs; whnf))
def d_53 : Stmt := pick _ (Is.of (pw.main.body[53]'(by decide)) _ (by conv => lhs; whnf))
def d_54 : Stmt := pick _ (Is.of (pw.main.body[54]'(by decide)) _ (by conv => lhs; whnf))
def d_55 : Stmt := pick _ (Is.of (pw.main.body[55]'(by decide)) _ (by conv => lhs; whnf))
def d_56 : Stmt := pick _ (Is.of (pw.main.body[56]'(by decide)) _ (by conv => lhs; whnf))
def d_57 : Stmt := pick _ (Is.of (pw.main.body[57]'(by decide)) _ (by conv => lhs; whnf))
def d_58 : Stmt := pick _ (Is.of (pw.main.body[58]'(by decide)) _ (by conv => lhs; whnf))
def d_59 : Stmt := pick _ (Is.of (pw.main.body[59]'(by decide)) _ (by conv => lhs; whnf))
def d_60 : Stmt := pick _ (Is.of (pw.main.body[60]'(by decide)) _ (by conv => lhs; whnf))
def d_61 : Stmt := pick _ (Is.of (pw.main.body[61]'(by decide)) _ (by conv => lhs; whnf))
def d_62 : Stmt := pick _ (Is.of (pw.main.body[62]'(by decide)) _ (by conv => lhs; whnf))
def d_63 : Stmt := pick _ (Is.of (pw.main.body[63]'(by decide)) _ (by conv => lhs; whnf))
def d_64 : Stmt := pick _ (Is.of (pw.main.body[64]'(by decide)) _ (by conv => lhs; whnf))
def d_65 : Stmt := pick _ (Is.of (pw.main.body[65]'(by decide)) _ (by conv => lhs; whnf))
def d_66 : Stmt := pick _ (Is.of (pw.main.body[66]'(by decide)) _ (by conv => lhs; whnf))
def d_67 : Stmt := pick _ (Is.of (pw.main.body[67]'(by decide)) _ (by conv => lhs; whnf))
def d_68 : Stmt := pick _ (Is.of (pw.main.body[68]'(by decide)) _ (by conv => lhs; whnf))
def d_69 : Stmt := pick _ (Is.of (pw.main.body[69]'(by decide)) _ (by conv => lhs; whnf))
def d_70 : Stmt := pick _ (Is.of (pw.main.body[70]'(by decide)) _ (by conv => lhs; whnf))
def d_71 : Stmt := pick _ (Is.of (pw.main.body[71]'(by decide)) _ (by conv => lhs; whnf))
def d_72 : Stmt := pick _ (Is.of (pw.main.body[72]'(by decide)) _ (by conv => lhs; whnf))
def d_73 : Stmt := pick _ (Is.of (pw.main.body[73]'(by decide)) _ (by conv => lhs; whnf))
def ns_64 : List (Str × NameKind) := pick (_ :: _ :: _ :: _ :: _ :: []) (Is.of (pw.main.scope.names.drop 64) _ rfl)
def ns_56 : List (Str × NameKind) := pick (_ :: _ :: _ :: _ :: _ :: _ :: _ :: _ :: ns_64) (Is.of (pw.main.scope.names.drop 56) _ rfl)
def ns_48 : List (Str × NameKind) := pick (_ :: _ :: _ :: _ :: _ :: _ :: _ :: _ :: ns_56) (Is.of (pw.main.scope.names.drop 48) _ rfl)
def ns_40 : List (Str × NameKind) := pick (_ :: _ :: _ :: _ :: _ :: _ :: _ :: _ :: ns_48) (Is.of (pw.main.scope.names.drop 40) _ rfl)
def ns_32 : List (Str × NameKind) := pick (_ :: _ :: _ :: _ :: _ :: _ :: _ :: _ :: ns_40) (Is.of (pw.main.scope.names.drop 32) _ rfl)
def ns_24 : List (Str × NameKind) := pick (_ :: _ :: _ :: _ :: _ :: _ :: _ :: _ :: ns_32) (Is.of (pw.main.scope.names.drop 24) _ rfl)
def ns_16 : List (Str × NameKind) := pick (_ :: _ :: _ :: _ :: _ :: _ :: _ :: _ :: ns_24) (Is.of (pw.main.scope.names.drop 16) _ rfl)
def ns_8 : List (Str × NameKind) := pick (_ :: _ :: _ :: _ :: _ :: _ :: _ :: _ :: ns_16) (Is.of (pw.main.scope.names.drop 8) _ rfl)
def ns_0 : List (Str × NameKind) := pick (_ :: _ :: _ :: _ :: _ :: _ :: _ :: _ :: ns_8) (Is.of (pw.main.scope.names.drop 0) _ rfl)
def scp : Scope := pick { kind := _, names := ns_0, isGenerator := _, isCoroutine := _, more := _ } (Is.of pw.main.scope _ rfl)
def pwS : Program := pick {
  main := { body := [d_0, d_1, d_2, d_3, d_4, d_5, d_6, d_7, d_8, d_9, d_10, d_11, d_12, d_13, d_14, d_15, d_16, d_17, d_18, d_19, d_20, d_21, d_22, d_23, d_24, d_25, d_26, d_27, d_28, d_29, d_30, d_31, d_32, d_33, d_34, d_35, d_36, d_37, d_38, d_39, d_40, d_41, d_42, d_43, d_44, d_45, d_46, d_47, d_48, d_49, d_50, d_51, d_52, d_53, d_54, d_55, d_56, d_57, d_58, d_59, d_60, d_61, d_62, d_63, d_64, d_65, d_66, d_67, d_68, d_69, d_70, d_71, d_72, d_73], scope := scp, futureAnnotations := _, file := _, more := _ },
  modules := _, parses := _, absent := _, harvested := _, given := _ } (Is.of pw _ rfl)
def rwS : PySem.W.OpenLaw := pick { prog := pwS, name := _, about := _, foot := _, most := _, bound := _, writes := _ } (Is.of PySem.Challenge.rw_ij0097_01 _ rfl)
theorem rwS_eq : PySem.Challenge.rw_ij0097_01 = rwS := rfl
set_option compiler.extract_closed true
local macro_rules | `(tactic| k_head) => `(tactic| z_head)
set_option maxHeartbeats 8000000 in
open_top hd for rwS
/-- the heap behind the top's run, its objects named as the head names them -/
noncomputable def hd.heap_39 (P : Params) : Frag :=
  (nat_lit 0, PySem.W.boot_o_0 P) :: (nat_lit 1, PySem.W.boot_o_1 P) :: (nat_lit 2, PySem.W.boot_o_2 P) :: (nat_lit 3, hd.o_481 P) :: (nat_lit 4, PySem.W.boot_o_4 P) :: (nat_lit 5, PySem.W.boot_o_5 P) :: (nat_lit 6, PySem.W.boot_o_6 P) :: (nat_lit 7, PySem.W.boot_o_7 P) :: (nat_lit 8, PySem.W.boot_o_8 P) :: (nat_lit 9, PySem.W.boot_o_9 P) :: (nat_lit 10, PySem.W.boot_o_10 P) :: (nat_lit 11, hd.o_364 P) :: (nat_lit 12, hd.o_482 P) :: (nat_lit 13, hd.o_366 P) :: (nat_lit 14, hd.o_367 P) :: (nat_lit 15, hd.o_372 P) :: (nat_lit 16, hd.o_373 P) :: (nat_lit 17, hd.o_374 P) :: (nat_lit 18, hd.o_375 P) :: (nat_lit 19, hd.o_376 P) :: (nat_lit 20, hd.o_377 P) :: (nat_lit 21, hd.o_378 P) :: (nat_lit 22, hd.o_379 P) :: (nat_lit 23, hd.o_380 P) :: (nat_lit 24, hd.o_381 P) :: (nat_lit 25, hd.o_382 P) :: (nat_lit 26, hd.o_383 P) :: (nat_lit 27, hd.o_384 P) :: (nat_lit 28, hd.o_385 P) :: (nat_lit 29, hd.o_386 P) :: (nat_lit 30, hd.o_387 P) :: (nat_lit 31, hd.o_388 P) :: (nat_lit 32, hd.o_389 P) :: (nat_lit 33, hd.o_390 P) :: (nat_lit 34, hd.o_391 P) :: (nat_lit 35, hd.o_392 P) :: (nat_lit 43, hd.o_402 P) :: (nat_lit 44, hd.o_403 P) :: (nat_lit 45, hd.o_404 P) :: (nat_lit 46, hd.o_405 P) :: (nat_lit 47, hd.o_406 P) :: (nat_lit 48, hd.o_407 P) :: (nat_lit 49, hd.o_408 P) :: (nat_lit 50, hd.o_409 P) :: (nat_lit 51, hd.o_410 P) :: (nat_lit 52, hd.o_411 P) :: (nat_lit 53, hd.o_412 P) :: (nat_lit 54, hd.o_413 P) :: (nat_lit 55, hd.o_414 P) :: (nat_lit 56, hd.o_415 P) :: (nat_lit 57, hd.o_416 P) :: (nat_lit 58, hd.o_417 P) :: (nat_lit 59, hd.o_418 P) :: (nat_lit 60, hd.o_419 P) :: (nat_lit 61, hd.o_420 P) :: (nat_lit 62, hd.o_421 P) :: (nat_lit 63, hd.o_422 P) :: (nat_lit 64, hd.o_423 P) :: (nat_lit 65, hd.o_424 P) :: (nat_lit 67, hd.o_426 P) :: (nat_lit 68, hd.o_427 P) :: (nat_lit 69, hd.o_428 P) :: (nat_lit 70, hd.o_429 P) :: (nat_lit 71, hd.o_430 P) :: (nat_lit 72, hd.o_431 P) :: (nat_lit 73, hd.o_432 P) :: (nat_lit 76, hd.o_435 P) :: (nat_lit 77, hd.o_436 P) :: (nat_lit 78, hd.o_437 P) :: (nat_lit 79, hd.o_438 P) :: (nat_lit 80, hd.o_439 P) :: (nat_lit 81, hd.o_440 P) :: (nat_lit 82, hd.o_441 P) :: (nat_lit 83, hd.o_444 P) :: (nat_lit 84, hd.o_445 P) :: (nat_lit 85, hd.o_446 P) :: (nat_lit 86, hd.o_447 P) :: (nat_lit 87, hd.o_448 P) :: (nat_lit 88, hd.o_449 P) :: (nat_lit 89, hd.o_450 P) :: (nat_lit 90, hd.o_451 P) :: (nat_lit 91, hd.o_452 P) :: (nat_lit 92, hd.o_453 P) :: (nat_lit 93, hd.o_454 P) :: (nat_lit 94, hd.o_455 P) :: (nat_lit 95, hd.o_456 P) :: (nat_lit 96, hd.o_457 P) :: (nat_lit 97, hd.o_458 P) :: (nat_lit 98, hd.o_459 P) :: (nat_lit 99, hd.o_460 P) :: (nat_lit 100, hd.o_461 P) :: (nat_lit 101, hd.o_462 P) :: (nat_lit 102, hd.o_463 P) :: (nat_lit 103, hd.o_464 P) :: (nat_lit 104, hd.o_465 P) :: (nat_lit 105, hd.o_466 P) :: (nat_lit 106, hd.o_467 P) :: (nat_lit 107, hd.o_468 P) :: (nat_lit 108, hd.o_469 P) :: (nat_lit 109, hd.o_470 P) :: (nat_lit 110, hd.o_471 P) :: (nat_lit 111, hd.o_475 P) :: (nat_lit 114, hd.o_483 P) :: (nat_lit 115, hd.o_484 P) :: (nat_lit 116, hd.o_485 P) :: (nat_lit 117, hd.o_486 P) :: (nat_lit 118, hd.o_487 P) :: (nat_lit 119, hd.o_488 P) :: (nat_lit 120, hd.o_489 P) :: (nat_lit 121, hd.o_490 P) :: (nat_lit 122, hd.o_491 P) :: (nat_lit 123, hd.o_492 P) :: (nat_lit 124, hd.o_493 P) :: (nat_lit 125, hd.o_494 P) :: (nat_lit 126, hd.o_495 P) :: (nat_lit 127, hd.o_496 P) :: (nat_lit 128, hd.o_497 P) :: (nat_lit 129, hd.o_498 P) :: (nat_lit 130, hd.o_499 P) :: (nat_lit 131, hd.o_500 P) :: (nat_lit 132, hd.o_501 P) :: (nat_lit 133, hd.o_502 P) :: (nat_lit 134, hd.o_503 P) :: (nat_lit 135, hd.o_504 P) :: (nat_lit 136, hd.o_505 P) :: (nat_lit 137, hd.o_506 P) :: (nat_lit 138, hd.o_507 P) :: (nat_lit 139, hd.o_508 P) :: (nat_lit 140, hd.o_509 P) :: (nat_lit 141, hd.o_510 P) :: (nat_lit 142, hd.o_511 P) :: (nat_lit 143, hd.o_512 P) :: (nat_lit 144, hd.o_513 P) :: (nat_lit 145, hd.o_514 P) :: (nat_lit 146, hd.o_515 P) :: (nat_lit 147, hd.o_516 P) :: (nat_lit 148, hd.o_517 P) :: (nat_lit 149, hd.o_518 P) :: (nat_lit 150, hd.o_519 P) :: (nat_lit 151, hd.o_520 P) :: (nat_lit 152, hd.o_521 P) :: (nat_lit 153, hd.o_522 P) :: (nat_lit 154, hd.o_523 P) :: (nat_lit 155, hd.o_524 P) :: (nat_lit 156, hd.o_525 P) :: (nat_lit 157, hd.o_526 P) :: (nat_lit 158, hd.o_527 P) :: (nat_lit 159, hd.o_528 P) :: (nat_lit 160, hd.o_529 P) :: (nat_lit 161, hd.o_530 P) :: (nat_lit 162, hd.o_531 P) :: (nat_lit 163, hd.o_532 P) :: (nat_lit 164, hd.o_533 P) :: (nat_lit 165, hd.o_534 P) :: (nat_lit 166, hd.o_535 P) :: (nat_lit 167, hd.o_536 P) :: []
set_option maxHeartbeats 8000000 in
theorem frag_eq (P : Params) : hd.heap_39 P = hd.heap_194 P := by kernel_rfl
end Mine
end
section -- A1
example : True := by
  w_top off
  k_with_none
  trivial
open PySem PySem.W PyProof.Rows PySem.Calls
namespace Mine

def Hold (P : Prop) : Prop := P
theorem Hold.mk {P : Prop} (h : Hold P) : P := h
theorem Hold.out {P : Prop} (h : P) : Hold P := h

/-- the frame's map, its names of note written out -/
theorem fr_canon {h₀ : Heap} {L : Addr} {h : Heap} {m : Str → Option Value} (F : Fr h₀ L h m) (ps : List (Str × Value)) (hp : ∀ p ∈ ps, m p.1 = some p.2) : Fr h₀ L h (kstB m ps) := by
  have e : kstB m ps = m := funext fun z => kstB_eq hp fun _ => rfl
  rw [e]; exact F

def ettTab : List (String × Int × Nat × Nat) := [
  ("!", 54, 433, 429),
  ("!=", 28, 435, 377),
  ("%", 24, 437, 369),
  ("%=", 40, 439, 401),
  ("&", 19, 441, 359),
  ("&=", 41, 443, 403),
  ("(", 7, 445, 335),
  (")", 8, 447, 337),
  ("*", 16, 449, 353),
  ("**", 35, 451, 391),
  ("**=", 46, 453, 413),
  ("*=", 38, 455, 397),
  ("+", 14, 457, 349),
  ("+=", 36, 459, 393),
  (",", 12, 461, 345),
  ("-", 15, 463, 351),
  ("-=", 37, 465, 395),
  ("->", 51, 467, 423),
  (".", 23, 469, 367),
  ("...", 52, 471, 425),
  ("/", 17, 473, 355),
  ("//", 47, 475, 415),
  ("//=", 48, 477, 417),
  ("/=", 39, 479, 399),
  (":", 11, 481, 343),
  (":=", 53, 483, 427),
  (";", 13, 485, 347),
  ("<", 20, 487, 361),
  ("<<", 33, 489, 387),
  ("<<=", 44, 491, 409),
  ("<=", 29, 493, 379),
  ("=", 22, 495, 365),
  ("==", 27, 497, 375),
  (">", 21, 499, 363),
  (">=", 30, 501, 381),
  (">>", 34, 502, 389),
  (">>=", 45, 503, 411),
  ("@", 49, 504, 419),
  ("@=", 50, 505, 421),
  ("[", 9, 506, 339),
  ("]", 10, 507, 341),
  ("^", 32, 508, 385),
  ("^=", 43, 509, 407),
  ("{", 25, 510, 371),
  ("|", 18, 511, 357),
  ("|=", 42, 512, 405),
  ("}", 26, 513, 373),
  ("~", 31, 514, 383)]
def ettEs (P : Params) : List DictEntry := ettTab.map fun e => ⟨PyData.keyHash P (Str.ofString e.1), .str (Str.ofString e.1) e.2.2.1, .int e.2.1 e.2.2.2⟩
/-- the dict's int at a text -/
def ett (x : Str) : Option Int := (ettTab.find? fun e => Str.ofString e.1 == x).map (·.2.1)
def ettTok (x : Str) : Nat := ((ettTab.find? fun e => Str.ofString e.1 == x).map (·.2.2.2)).getD 0

theorem ett_lookup (P : Params) : (hd.heap_39 P).lookup 111 = some ⟨.type "dict", none, .dict (ettEs P).toArray 48, #[]⟩ := rfl
theorem ett_keys (P : Params) : KeysLit P (ettEs P).toArray.toList := by
  show KeysLit P (ettEs P)
  unfold ettEs
  induction ettTab with
  | nil => exact trivial
  | cons e r ih => exact ⟨⟨_, _, rfl, rfl⟩, ih⟩
theorem ett_find (P : Params) (x : Str) : findBy Value.isStrOf (ettEs P).toArray x = (ett x).map fun i => Value.int i (ettTok x) := by
  unfold findBy ett ettTok ettEs
  rw [List.find?_toArray]
  induction ettTab with
  | nil => rfl
  | cons e r ih =>
    simp only [List.map_cons, List.find?_cons]
    have q : Value.isStrOf x (.str (Str.ofString e.1) e.2.2.1) = (Str.ofString e.1 == x) := rfl
    rw [q]
    cases h : (Str.ofString e.1 == x) with
    | true => rfl
    | false => exact ih

section
variable {prog : Program} {w : World} {A : Around} {E : Value → Shared → Prop} {s : Shared} {h₀ : Heap} {L : Addr} {m : Str → Option Value} {x : Str} {t : Tok} {Q : Value → Shared → Prop}
theorem in_ett (F : Fr h₀ L s.heap m) (X₀ : (hd.heap_39 w.params).In h₀) (h : Q (.bool (ett x).isSome) { s with toks := s.toks + 1 }) : wpAny (model prog w) A (compareOp .In (.str x t) (.ref 111)) Q E s :=
  wpAny_in_of (strKind_is prog w x t) (by decide) (mapOf_K (prog := prog) (X₀.keeps F.keep) (ett_lookup _) (ett_keys _)) (by rw [ett_find]; simpa using h)
theorem item_ett {value slice : Expr} {v : Int} (F : Fr h₀ L s.heap m) (X₀ : (hd.heap_39 w.params).In h₀) (e : ett x = some v) (h : Q (.int v (ettTok x)) { s with toks := s.toks + 1 })
    (hs : subscripted slice false (.ref 111) (.str x t) = operate [.ref 111, .str x t] (getItem (.ref 111) (.str x t)) := by with_unfolding_all rfl) :
    wpAny (model prog w) A (subscriptTail value slice (.ref 111) (.str x t)) Q E s :=
  have hm := mapOf_K (prog := prog) (X₀.keeps F.keep) (ett_lookup w.params) (ett_keys _)
  tail_any hm.typeIs slot_dict_getitem.lookup (wpAny_getItem_of (strKind_is prog w x t) hm (by rw [ett_find, e]; rfl) h) hs
theorem item_ettS {value slice : Expr} (F : Fr h₀ L s.heap m) (X₀ : (hd.heap_39 w.params).In h₀) (e : (ett x).isSome = true) (h : Q (.int ((ett x).getD 0) (ettTok x)) { s with toks := s.toks + 1 })
    (hs : subscripted slice false (.ref 111) (.str x t) = operate [.ref 111, .str x t] (getItem (.ref 111) (.str x t)) := by with_unfolding_all rfl) :
    wpAny (model prog w) A (subscriptTail value slice (.ref 111) (.str x t)) Q E s := by
  obtain ⟨v, hv⟩ := Option.isSome_iff_exists.mp e
  exact item_ett F X₀ hv (by rw [hv] at h; exact h) hs
end
end Mine
end
section -- P1
example : True := by
  w_top off
  k_with_none
  trivial
open PySem PySem.W PyProof.Rows PySem.Calls
namespace Mine

def St (l : List Nat) : Str := ⟨l.toArray⟩
def tabL : List (List Nat × Int) := ettTab.map fun e => ((Str.ofString e.1).cps.toList, e.2.1)
def tabN : List (List Nat × Int) := [([33], 54), ([33, 61], 28), ([37], 24), ([37, 61], 40), ([38], 19), ([38, 61], 41), ([40], 7), ([41], 8), ([42], 16), ([42, 42], 35), ([42, 42, 61], 46), ([42, 61], 38), ([43], 14), ([43, 61], 36), ([44], 12), ([45], 15), ([45, 61], 37), ([45, 62], 51), ([46], 23), ([46, 46, 46], 52), ([47], 17), ([47, 47], 47), ([47, 47, 61], 48), ([47, 61], 39), ([58], 11), ([58, 61], 53), ([59], 13), ([60], 20), ([60, 60], 33), ([60, 60, 61], 44), ([60, 61], 29), ([61], 22), ([61, 61], 27), ([62], 21), ([62, 61], 30), ([62, 62], 34), ([62, 62, 61], 45), ([64], 49), ([64, 61], 50), ([91], 9), ([93], 10), ([94], 32), ([94, 61], 43), ([123], 25), ([124], 18), ([124, 61], 42), ([125], 26), ([126], 31)]
theorem tab_eq : tabL = tabN := by decide +kernel
def ettL (l : List Nat) : Option Int := (tabN.find? fun e => e.1 == l).map (·.2)
theorem beq_toList (a b : Str) : (a == b) = (a.cps.toList == b.cps.toList) := by
  obtain ⟨⟨a⟩⟩ := a
  obtain ⟨⟨b⟩⟩ := b
  rw [Bool.eq_iff_iff]
  simp
theorem ett_St (l : List Nat) : ett (St l) = ettL l := by
  unfold ettL
  rw [← tab_eq]
  unfold ett tabL
  induction ettTab with
  | nil => rfl
  | cons e r ih =>
    simp only [List.map_cons, List.find?_cons]
    have q : (Str.ofString e.1 == St l) = ((Str.ofString e.1).cps.toList == l) := beq_toList _ _
    rw [q]
    cases h : ((Str.ofString e.1).cps.toList == l) with
    | true => rfl
    | false => exact ih

def pieceL (l : List Nat) : List Nat := if (ettL (l.take 3)).isSome then l.take 3 else if (ettL (l.take 2)).isSome then l.take 2 else l.take 1
def symL (p : List Nat) : Int := (ettL p).getD (256 + (p.headD 0 : Nat))
theorem pieceL_ex (l : List Nat) : ∃ n, 1 ≤ n ∧ n ≤ 3 ∧ pieceL l = l.take n := by
  unfold pieceL
  split
  · exact ⟨3, by decide, by decide, rfl⟩
  · split
    · exact ⟨2, by decide, by decide, rfl⟩
    · exact ⟨1, by decide, by decide, rfl⟩
theorem pieceL_pos {l : List Nat} (h : l ≠ []) : 1 ≤ (pieceL l).length := by
  obtain ⟨n, h1, _, e⟩ := pieceL_ex l
  rw [e, List.length_take]
  exact Nat.le_min.mpr ⟨h1, List.length_pos_iff.mpr h⟩
theorem pieceL_le3 (l : List Nat) : (pieceL l).length ≤ 3 := by
  obtain ⟨n, _, h2, e⟩ := pieceL_ex l
  rw [e, List.length_take]
  exact Nat.le_trans (Nat.min_le_left _ _) h2
theorem pieceL_take (l : List Nat) : pieceL l = l.take (pieceL l).length := by
  obtain ⟨n, _, _, e⟩ := pieceL_ex l
  rw [e, List.length_take]
  rcases Nat.le_total n l.length with h | h
  · rw [Nat.min_eq_left h]
  · rw [Nat.min_eq_right h, List.take_of_length_le h, List.take_of_length_le (Nat.le_refl _)]
theorem pieceL_app (l : List Nat) : pieceL l ++ l.drop (pieceL l).length = l := by
  conv => lhs; lhs; rw [pieceL_take l]
  exact List.take_append_drop _ _

/-- the tokens -/
def toks (l : List Nat) : List (List Nat) := match l with
  | [] => []
  | c :: r => pieceL (c :: r) :: toks ((c :: r).drop (pieceL (c :: r)).length)
termination_by l.length
decreasing_by
  have := pieceL_pos (l := c :: r) (by simp)
  rw [List.length_drop]
  exact Nat.sub_lt (Nat.succ_pos _) this
theorem toks_nil : toks [] = [] := by rw [toks]
theorem toks_step {l : List Nat} (h : l ≠ []) : toks l = pieceL l :: toks (l.drop (pieceL l).length) := by
  cases l with
  | nil => exact absurd rfl h
  | cons c r => rw [toks]
def cutL (l : List Nat) : List Int := (toks l).map symL
theorem cutL_nil : cutL [] = [] := by unfold cutL; rw [toks_nil]; rfl
theorem cutL_step {l : List Nat} (h : l ≠ []) : cutL l = symL (pieceL l) :: cutL (l.drop (pieceL l).length) := by
  unfold cutL; rw [toks_step h]; rfl
theorem toks_flat (l : List Nat) : (toks l).flatten = l := by
  induction l using toks.induct with
  | case1 => rw [toks_nil]; rfl
  | case2 c r ih => rw [toks_step (by simp), List.flatten_cons, ih]; exact pieceL_app _
theorem toks_ne {l : List Nat} : ∀ t ∈ toks l, t ≠ [] := by
  induction l using toks.induct with
  | case1 => rw [toks_nil]; intro t ht; cases ht
  | case2 c r ih =>
    rw [toks_step (by simp)]
    intro t ht
    rcases List.mem_cons.mp ht with rfl | ht
    · intro e
      have := pieceL_pos (l := c :: r) (by simp)
      rw [e] at this; simp at this
    · exact ih t ht

/-! keys -/
theorem ettL_some {l : List Nat} {v : Int} (h : ettL l = some v) : (l, v) ∈ tabN := by
  unfold ettL at h
  obtain ⟨e, he, rfl⟩ := Option.map_eq_some_iff.mp h
  have h1 := List.find?_some he
  have h2 := List.mem_of_find?_eq_some he
  have : e.1 = l := by simpa using h1
  subst this
  exact h2
theorem ettL_mem {l : List Nat} : (ettL l).isSome = true ↔ l ∈ tabN.map (·.1) := by
  constructor
  · intro h
    obtain ⟨v, hv⟩ := Option.isSome_iff_exists.mp h
    exact List.mem_map.mpr ⟨_, ettL_some hv, rfl⟩
  · intro h
    obtain ⟨e, he, rfl⟩ := List.mem_map.mp h
    have key : ∀ e ∈ tabN, (ettL e.1).isSome = true := by decide +kernel
    exact key e he
theorem key3 (a b c : Nat) : (ettL [a, b, c]).isSome = true ↔ (a = 46 ∧ b = 46 ∧ c = 46) ∨ (a = b ∧ c = 61 ∧ (a = 42 ∨ a = 60 ∨ a = 62 ∨ a = 47)) := by
  constructor
  · intro h
    have key : ∀ l ∈ tabN.map (·.1), l.length = 3 → (l.getD 0 0 = 46 ∧ l.getD 1 0 = 46 ∧ l.getD 2 0 = 46) ∨ (l.getD 0 0 = l.getD 1 0 ∧ l.getD 2 0 = 61 ∧ (l.getD 0 0 = 42 ∨ l.getD 0 0 = 60 ∨ l.getD 0 0 = 62 ∨ l.getD 0 0 = 47)) := by decide +kernel
    exact key [a, b, c] (ettL_mem.mp h) rfl
  · rintro (⟨rfl, rfl, rfl⟩ | ⟨rfl, rfl, rfl | rfl | rfl | rfl⟩) <;> decide +kernel
theorem key2 (a b : Nat) : (ettL [a, b]).isSome = true ↔ (a = 45 ∧ b = 62) ∨ (a = b ∧ (a = 42 ∨ a = 60 ∨ a = 62 ∨ a = 47)) ∨ (b = 61 ∧ (a = 33 ∨ a = 37 ∨ a = 38 ∨ a = 42 ∨ a = 43 ∨ a = 45 ∨ a = 47 ∨ a = 58 ∨ a = 60 ∨ a = 61 ∨ a = 62 ∨ a = 64 ∨ a = 94 ∨ a = 124)) := by
  constructor
  · intro h
    have key : ∀ l ∈ tabN.map (·.1), l.length = 2 → (l.getD 0 0 = 45 ∧ l.getD 1 0 = 62) ∨ (l.getD 0 0 = l.getD 1 0 ∧ (l.getD 0 0 = 42 ∨ l.getD 0 0 = 60 ∨ l.getD 0 0 = 62 ∨ l.getD 0 0 = 47)) ∨ (l.getD 1 0 = 61 ∧ (l.getD 0 0 = 33 ∨ l.getD 0 0 = 37 ∨ l.getD 0 0 = 38 ∨ l.getD 0 0 = 42 ∨ l.getD 0 0 = 43 ∨ l.getD 0 0 = 45 ∨ l.getD 0 0 = 47 ∨ l.getD 0 0 = 58 ∨ l.getD 0 0 = 60 ∨ l.getD 0 0 = 61 ∨ l.getD 0 0 = 62 ∨ l.getD 0 0 = 64 ∨ l.getD 0 0 = 94 ∨ l.getD 0 0 = 124)) := by decide +kernel
    exact key [a, b] (ettL_mem.mp h) rfl
  · rintro (⟨rfl, rfl⟩ | ⟨rfl, rfl | rfl | rfl | rfl⟩ | ⟨rfl, h⟩)
    iterate 5 decide +kernel
    have key : ∀ a ∈ [33, 37, 38, 42, 43, 45, 47, 58, 60, 61, 62, 64, 94, 124], (ettL [a, 61]).isSome = true := by decide +kernel
    refine key a ?_
    simpa using h
end Mine
end
section -- P2
example : True := by
  w_top off
  k_with_none
  trivial
open PySem PySem.W PyProof.Rows PySem.Calls
namespace Mine

theorem pieceL_1 (a : Nat) : pieceL [a] = [a] := by
  unfold pieceL
  simp
theorem pieceL_2 (a b : Nat) : pieceL [a, b] = if (ettL [a, b]).isSome = true then [a, b] else [a] := by
  unfold pieceL
  simp only [List.take_succ_cons, List.take_nil, List.take_zero]
  split <;> rfl
theorem pieceL_3 (a b c : Nat) (r : List Nat) : pieceL (a :: b :: c :: r) = if (ettL [a, b, c]).isSome = true then [a, b, c] else if (ettL [a, b]).isSome = true then [a, b] else [a] := by
  unfold pieceL
  rfl

/-- a piece is cut the same with slashes behind it -/
theorem pieceL_behind {ys zs : List Nat} (h0 : ys ≠ []) (hl : ys.getLast? ≠ some 47) (hz : zs = [] ∨ zs.head? = some 47) : pieceL (ys ++ zs) = pieceL ys := by
  rcases hz with rfl | hz
  · rw [List.append_nil]
  obtain ⟨zs', rfl⟩ : ∃ t, zs = 47 :: t := by
    cases zs with
    | nil => cases hz
    | cons z t => simp at hz; exact ⟨t, by rw [hz]⟩
  match ys, h0 with
  | [a], _ =>
    have ha : a ≠ 47 := by simpa using hl
    have e2 : ¬ (ettL [a, 47]).isSome = true := by rw [key2]; omega
    cases zs' with
    | nil => show pieceL [a, 47] = _; rw [pieceL_2, if_neg e2, pieceL_1]
    | cons c t =>
      show pieceL (a :: 47 :: c :: t) = _
      have e3 : ¬ (ettL [a, 47, c]).isSome = true := by rw [key3]; omega
      rw [pieceL_3, if_neg e3, if_neg e2, pieceL_1]
  | [a, b], _ =>
    have hb : b ≠ 47 := by simpa using hl
    show pieceL (a :: b :: 47 :: zs') = _
    have e3 : ¬ (ettL [a, b, 47]).isSome = true := by rw [key3]; omega
    rw [pieceL_3, if_neg e3, pieceL_2]
  | a :: b :: c :: t, _ =>
    show pieceL (a :: b :: c :: (t ++ 47 :: zs')) = _
    rw [pieceL_3, pieceL_3]

theorem last_drop {ys : List Nat} {n : Nat} (hl : ys.getLast? ≠ some 47) : (ys.drop n).getLast? ≠ some 47 := by
  rw [List.getLast?_drop]
  split
  · simp
  · exact hl
theorem pieceL_len (l : List Nat) : (pieceL l).length ≤ l.length := by
  have := pieceL_app l
  have h2 := congrArg List.length this
  rw [List.length_append] at h2
  omega
theorem toks_app (ys zs : List Nat) (hl : ys.getLast? ≠ some 47) (hz : zs = [] ∨ zs.head? = some 47) : toks (ys ++ zs) = toks ys ++ toks zs := by
  induction ys using toks.induct with
  | case1 => rw [toks_nil]; rfl
  | case2 c r ih =>
    have ne : c :: r ≠ [] := by simp
    have e : pieceL (c :: r ++ zs) = pieceL (c :: r) := pieceL_behind ne hl hz
    rw [toks_step (l := c :: r ++ zs) (by simp), toks_step ne, e, List.drop_append_of_le_length (pieceL_len _), ih (last_drop hl)]
    rfl
theorem cutL_app (ys zs : List Nat) (hl : ys.getLast? ≠ some 47) (hz : zs = [] ∨ zs.head? = some 47) : cutL (ys ++ zs) = cutL ys ++ cutL zs := by
  unfold cutL; rw [toks_app ys zs hl hz, List.map_append]

/-! the law's own reading -/
def dbl : List Nat := [42, 60, 62]
def eqs : List Nat := [33, 37, 38, 42, 43, 45, 58, 60, 61, 62, 64, 94, 124]
def sizeP (l : List Nat) : Nat :=
  if l.take 3 = [46, 46, 46] then 3 else if l.take 2 = [45, 62] then 2 else
    let s := if dbl.contains (l.headD 0) ∧ (l.drop 1).take 1 = [l.headD 0] then 2 else 1
    if eqs.contains (l.headD 0) ∧ (l.drop s).take 1 = [61] then s + 1 else s
theorem sizeP_pos (l : List Nat) : 1 ≤ sizeP l := by
  unfold sizeP
  dsimp only
  repeat' split
  all_goals omega
theorem sizeP_3 (a b c : Nat) (t : List Nat) : sizeP (a :: b :: c :: t) = if a = 46 ∧ b = 46 ∧ c = 46 then 3 else if a = 45 ∧ b = 62 then 2 else
    if (a = 42 ∨ a = 60 ∨ a = 62) ∧ b = a then (if c = 61 then 3 else 2) else
    if b = 61 ∧ (a = 33 ∨ a = 37 ∨ a = 38 ∨ a = 42 ∨ a = 43 ∨ a = 45 ∨ a = 58 ∨ a = 60 ∨ a = 61 ∨ a = 62 ∨ a = 64 ∨ a = 94 ∨ a = 124) then 2 else 1 := by
  unfold sizeP
  simp only [dbl, eqs, List.take_succ_cons, List.take_zero, List.headD_cons, List.drop_succ_cons, List.drop_zero, List.cons.injEq, and_true, List.contains_iff_mem, List.mem_cons, List.not_mem_nil, or_false]
  by_cases h1 : a = 46 ∧ b = 46 ∧ c = 46
  · rw [if_pos h1, if_pos h1]
  rw [if_neg h1, if_neg h1]
  by_cases h2 : a = 45 ∧ b = 62
  · rw [if_pos h2, if_pos h2]
  rw [if_neg h2, if_neg h2]
  by_cases h3 : (a = 42 ∨ a = 60 ∨ a = 62) ∧ b = a
  · simp only [h3.1, h3.2, and_true, if_true]
    obtain ⟨h4, rfl⟩ := h3
    by_cases h5 : c = 61
    · subst h5
      rcases h4 with rfl | rfl | rfl <;> simp
    · rw [if_neg h5, if_neg]
      rintro ⟨_, q⟩
      rcases h4 with rfl | rfl | rfl <;> simp at q <;> exact h5 q
  · rw [if_neg h3, if_neg h3]
    by_cases h4 : b = 61
    · subst h4
      simp
    · simp [h4]
theorem sizeP_2 (a b : Nat) : sizeP [a, b] = if a = 45 ∧ b = 62 then 2 else
    if (a = 42 ∨ a = 60 ∨ a = 62) ∧ b = a then 2 else
    if b = 61 ∧ (a = 33 ∨ a = 37 ∨ a = 38 ∨ a = 42 ∨ a = 43 ∨ a = 45 ∨ a = 58 ∨ a = 60 ∨ a = 61 ∨ a = 62 ∨ a = 64 ∨ a = 94 ∨ a = 124) then 2 else 1 := by
  unfold sizeP
  simp only [dbl, eqs, List.take_succ_cons, List.take_nil, List.take_zero, List.headD_cons, List.drop_succ_cons, List.drop_zero, List.cons.injEq, reduceCtorEq, and_false, if_false, and_true, List.contains_iff_mem, List.mem_cons, List.not_mem_nil, or_false]
  by_cases h2 : a = 45 ∧ b = 62
  · rw [if_pos h2, if_pos h2]
  rw [if_neg h2, if_neg h2]
  by_cases h3 : (a = 42 ∨ a = 60 ∨ a = 62) ∧ b = a
  · simp only [h3.1, h3.2, and_true, if_true]
    obtain ⟨h4, rfl⟩ := h3
    rcases h4 with rfl | rfl | rfl <;> simp
  · rw [if_neg h3, if_neg h3]
    by_cases h4 : b = 61
    · subst h4
      simp
    · simp [h4]
theorem E14 {a : Nat} (h : a = 33 ∨ a = 37 ∨ a = 38 ∨ a = 42 ∨ a = 43 ∨ a = 45 ∨ a = 58 ∨ a = 60 ∨ a = 61 ∨ a = 62 ∨ a = 64 ∨ a = 94 ∨ a = 124) :
    a = 33 ∨ a = 37 ∨ a = 38 ∨ a = 42 ∨ a = 43 ∨ a = 45 ∨ a = 47 ∨ a = 58 ∨ a = 60 ∨ a = 61 ∨ a = 62 ∨ a = 64 ∨ a = 94 ∨ a = 124 := by
  have key : ∀ a ∈ [33, 37, 38, 42, 43, 45, 58, 60, 61, 62, 64, 94, 124], a ∈ [33, 37, 38, 42, 43, 45, 47, 58, 60, 61, 62, 64, 94, 124] := by decide +kernel
  have := key a (by simpa using h)
  simpa using this
theorem D4 {a : Nat} (h : a = 42 ∨ a = 60 ∨ a = 62) : a = 42 ∨ a = 60 ∨ a = 62 ∨ a = 47 := by
  rcases h with h | h | h
  · exact .inl h
  · exact .inr (.inl h)
  · exact .inr (.inr (.inl h))
theorem k3_of {a b c : Nat} (h47 : a ≠ 47) : (ettL [a, b, c]).isSome = true ↔ (a = 46 ∧ b = 46 ∧ c = 46) ∨ (((a = 42 ∨ a = 60 ∨ a = 62) ∧ b = a) ∧ c = 61) := by
  rw [key3]
  constructor
  · rintro (h | ⟨h1, h2, h3⟩)
    · exact .inl h
    · rcases h3 with h3 | h3 | h3 | h3
      · exact .inr ⟨⟨.inl h3, h1.symm⟩, h2⟩
      · exact .inr ⟨⟨.inr (.inl h3), h1.symm⟩, h2⟩
      · exact .inr ⟨⟨.inr (.inr h3), h1.symm⟩, h2⟩
      · exact absurd h3 h47
  · rintro (h | ⟨⟨h1, h2⟩, h3⟩)
    · exact .inl h
    · exact .inr ⟨h2.symm, h3, D4 h1⟩
theorem k2_of {a b : Nat} (h47 : a ≠ 47) : (ettL [a, b]).isSome = true ↔ (a = 45 ∧ b = 62) ∨ ((a = 42 ∨ a = 60 ∨ a = 62) ∧ b = a) ∨ (b = 61 ∧ (a = 33 ∨ a = 37 ∨ a = 38 ∨ a = 42 ∨ a = 43 ∨ a = 45 ∨ a = 58 ∨ a = 60 ∨ a = 61 ∨ a = 62 ∨ a = 64 ∨ a = 94 ∨ a = 124)) := by
  rw [key2]
  constructor
  · rintro (h | ⟨h1, h3⟩ | ⟨h1, h2⟩)
    · exact .inl h
    · rcases h3 with h3 | h3 | h3 | h3
      · exact .inr (.inl ⟨.inl h3, h1.symm⟩)
      · exact .inr (.inl ⟨.inr (.inl h3), h1.symm⟩)
      · exact .inr (.inl ⟨.inr (.inr h3), h1.symm⟩)
      · exact absurd h3 h47
    · simp only [h47, false_or] at h2
      exact .inr (.inr ⟨h1, h2⟩)
  · rintro (h | ⟨h1, h2⟩ | ⟨h1, h2⟩)
    · exact .inl h
    · exact .inr (.inl ⟨h2.symm, D4 h1⟩)
    · exact .inr (.inr ⟨h1, E14 h2⟩)
theorem k2s {c : Nat} (h : c ≠ 47) : (ettL [47, c]).isSome = true ↔ c = 61 := by
  rw [key2]
  constructor
  · rintro (⟨h1, _⟩ | ⟨h1, _⟩ | ⟨h1, _⟩)
    · exact absurd h1 (by decide)
    · exact absurd h1.symm h
    · exact h1
  · intro e
    exact .inr (.inr ⟨e, by decide⟩)
theorem k3s {c d : Nat} (h : c ≠ 47) : ¬ (ettL [47, c, d]).isSome = true := by
  rw [key3]
  rintro (⟨h1, _⟩ | ⟨h1, _⟩)
  · exact absurd h1 (by decide)
  · exact absurd h1.symm h
theorem k3ss {c : Nat} : (ettL [47, 47, c]).isSome = true ↔ c = 61 := by
  rw [key3]
  constructor
  · rintro (⟨h1, _⟩ | ⟨_, h1, _⟩)
    · exact absurd h1 (by decide)
    · exact h1
  · intro e
    exact .inr ⟨rfl, e, by decide⟩
theorem k2ss : (ettL [47, 47]).isSome = true := by decide +kernel
theorem not_D {a b : Nat} (h : a = 45 ∧ b = 62) : ¬((a = 42 ∨ a = 60 ∨ a = 62) ∧ b = a) := by
  rintro ⟨h1, _⟩
  rw [h.1] at h1
  revert h1
  decide
theorem piece_size {l : List Nat} (h : l ≠ []) (h47 : l.headD 0 ≠ 47) : pieceL l = l.take (sizeP l) := by
  match l, h with
  | [a], _ =>
    rw [pieceL_1, List.take_of_length_le (by have := sizeP_pos [a]; simp; omega)]
  | [a, b], _ =>
    have h47 : a ≠ 47 := h47
    have k2 := k2_of (b := b) h47
    rw [pieceL_2, sizeP_2]
    by_cases hY : a = 45 ∧ b = 62
    · rw [if_pos (k2.mpr (.inl hY)), if_pos hY]; rfl
    by_cases hD : (a = 42 ∨ a = 60 ∨ a = 62) ∧ b = a
    · rw [if_pos (k2.mpr (.inr (.inl hD))), if_neg hY, if_pos hD]; rfl
    by_cases hF : b = 61 ∧ (a = 33 ∨ a = 37 ∨ a = 38 ∨ a = 42 ∨ a = 43 ∨ a = 45 ∨ a = 58 ∨ a = 60 ∨ a = 61 ∨ a = 62 ∨ a = 64 ∨ a = 94 ∨ a = 124)
    · rw [if_pos (k2.mpr (.inr (.inr hF))), if_neg hY, if_neg hD, if_pos hF]; rfl
    · rw [if_neg (fun q => (k2.mp q).elim hY fun z => z.elim hD hF), if_neg hY, if_neg hD, if_neg hF]; rfl
  | a :: b :: c :: t, _ =>
    have h47 : a ≠ 47 := h47
    have k2 := k2_of (b := b) h47
    have k3 := k3_of (b := b) (c := c) h47
    rw [pieceL_3, sizeP_3]
    by_cases hX : a = 46 ∧ b = 46 ∧ c = 46
    · rw [if_pos (k3.mpr (.inl hX)), if_pos hX]; rfl
    by_cases hY : a = 45 ∧ b = 62
    · rw [if_neg (fun q => (k3.mp q).elim hX fun z => not_D hY z.1), if_pos (k2.mpr (.inl hY)), if_neg hX, if_pos hY]; rfl
    by_cases hD : (a = 42 ∨ a = 60 ∨ a = 62) ∧ b = a
    · by_cases hc : c = 61
      · rw [if_pos (k3.mpr (.inr ⟨hD, hc⟩)), if_neg hX, if_neg hY, if_pos hD, if_pos hc]; rfl
      · rw [if_neg (fun q => (k3.mp q).elim hX fun z => hc z.2), if_pos (k2.mpr (.inr (.inl hD))), if_neg hX, if_neg hY, if_pos hD, if_neg hc]; rfl
    by_cases hF : b = 61 ∧ (a = 33 ∨ a = 37 ∨ a = 38 ∨ a = 42 ∨ a = 43 ∨ a = 45 ∨ a = 58 ∨ a = 60 ∨ a = 61 ∨ a = 62 ∨ a = 64 ∨ a = 94 ∨ a = 124)
    · rw [if_neg (fun q => (k3.mp q).elim hX fun z => hD z.1), if_pos (k2.mpr (.inr (.inr hF))), if_neg hX, if_neg hY, if_neg hD, if_pos hF]; rfl
    · rw [if_neg (fun q => (k3.mp q).elim hX fun z => hD z.1), if_neg (fun q => (k2.mp q).elim hY fun z => z.elim hD hF), if_neg hX, if_neg hY, if_neg hD, if_neg hF]; rfl
theorem size_key {l : List Nat} (h : l ≠ []) : sizeP l ≤ l.length ∧ ((ettL (l.take (sizeP l))).isSome = false → sizeP l = 1) := by
  match l, h with
  | [a], _ =>
    have e : sizeP [a] = 1 := by unfold sizeP; simp
    rw [e]; exact ⟨Nat.le_refl _, fun _ => rfl⟩
  | [a, b], _ =>
    rw [sizeP_2]
    by_cases hY : a = 45 ∧ b = 62
    · rw [if_pos hY]
      exact ⟨Nat.le_refl _, fun q => absurd ((key2 a b).mpr (.inl hY)) (by rw [show List.take 2 [a, b] = [a, b] from rfl] at q; rw [q]; simp)⟩
    rw [if_neg hY]
    by_cases hD : (a = 42 ∨ a = 60 ∨ a = 62) ∧ b = a
    · rw [if_pos hD]
      exact ⟨Nat.le_refl _, fun q => absurd ((key2 a b).mpr (.inr (.inl ⟨hD.2.symm, D4 hD.1⟩))) (by rw [show List.take 2 [a, b] = [a, b] from rfl] at q; rw [q]; simp)⟩
    rw [if_neg hD]
    split
    · rename_i hF
      exact ⟨Nat.le_refl _, fun q => absurd ((key2 a b).mpr (.inr (.inr ⟨hF.1, E14 hF.2⟩))) (by rw [show List.take 2 [a, b] = [a, b] from rfl] at q; rw [q]; simp)⟩
    · exact ⟨by simp, fun _ => rfl⟩
  | a :: b :: c :: t, _ =>
    rw [sizeP_3]
    have n3 : (ettL (List.take 3 (a :: b :: c :: t))).isSome = false → ¬ (ettL [a, b, c]).isSome = true := fun q => by rw [show List.take 3 (a :: b :: c :: t) = [a, b, c] from rfl] at q; rw [q]; simp
    have n2 : (ettL (List.take 2 (a :: b :: c :: t))).isSome = false → ¬ (ettL [a, b]).isSome = true := fun q => by rw [show List.take 2 (a :: b :: c :: t) = [a, b] from rfl] at q; rw [q]; simp
    by_cases hX : a = 46 ∧ b = 46 ∧ c = 46
    · rw [if_pos hX]
      exact ⟨by simp, fun q => absurd ((key3 a b c).mpr (.inl hX)) (n3 q)⟩
    rw [if_neg hX]
    by_cases hY : a = 45 ∧ b = 62
    · rw [if_pos hY]
      exact ⟨by simp, fun q => absurd ((key2 a b).mpr (.inl hY)) (n2 q)⟩
    rw [if_neg hY]
    by_cases hD : (a = 42 ∨ a = 60 ∨ a = 62) ∧ b = a
    · rw [if_pos hD]
      have hd : a = 42 ∨ a = 60 ∨ a = 62 ∨ a = 47 := D4 hD.1
      by_cases hc : c = 61
      · rw [if_pos hc]
        exact ⟨by simp, fun q => absurd ((key3 a b c).mpr (.inr ⟨hD.2.symm, hc, hd⟩)) (n3 q)⟩
      · rw [if_neg hc]
        exact ⟨by simp, fun q => absurd ((key2 a b).mpr (.inr (.inl ⟨hD.2.symm, hd⟩))) (n2 q)⟩
    rw [if_neg hD]
    split
    · rename_i hF
      exact ⟨by simp, fun q => absurd ((key2 a b).mpr (.inr (.inr ⟨hF.1, E14 hF.2⟩))) (n2 q)⟩
    · exact ⟨by simp, fun _ => rfl⟩
end Mine
end
section -- P3
example : True := by
  w_top off
  k_with_none
  trivial
open PySem PySem.W PyProof.Rows PySem.Calls
namespace Mine

/-! the law's own row of symbols -/
def rowP (l : List Nat) : List Int := match l with
  | [] => []
  | c :: r => symL ((c :: r).take (sizeP (c :: r))) :: rowP ((c :: r).drop (sizeP (c :: r)))
termination_by l.length
decreasing_by
  have := sizeP_pos (c :: r)
  rw [List.length_drop]
  simp only [List.length_cons] at *
  omega
theorem rowP_nil : rowP [] = [] := by rw [rowP]
theorem rowP_step {l : List Nat} (h : l ≠ []) : rowP l = symL (l.take (sizeP l)) :: rowP (l.drop (sizeP l)) := by
  cases l with
  | nil => exact absurd rfl h
  | cons c r => rw [rowP]
theorem rowP_cut (l : List Nat) (h : 47 ∉ l) : rowP l = cutL l := by
  induction l using rowP.induct with
  | case1 => rw [rowP_nil, cutL_nil]
  | case2 c r ih =>
    have ne : c :: r ≠ [] := by simp
    have e := piece_size ne (by intro q; exact h (by simp at q; simp [q]))
    rw [rowP_step ne, cutL_step ne, ih (fun q => h (List.mem_of_mem_drop q)), e, List.length_take]
    congr 2
    by_cases q : sizeP (c :: r) ≤ (c :: r).length
    · rw [Nat.min_eq_left q]
    · rw [List.drop_of_length_le (by omega), List.drop_of_length_le (by omega)]

def slashRow (n : Nat) : List Int := List.replicate (n / 2) 47 ++ List.replicate (n % 2) 17
theorem slashRow_0 : slashRow 0 = [] := rfl
theorem slashRow_1 : slashRow 1 = [17] := rfl
theorem slashRow_2 : slashRow 2 = [47] := rfl
theorem slashRow_ss (n : Nat) : slashRow (n + 2) = 47 :: slashRow n := by
  unfold slashRow
  rw [show (n + 2) / 2 = n / 2 + 1 by omega, show (n + 2) % 2 = n % 2 by omega, List.replicate_succ, List.cons_append]
theorem slashRow_ne {n : Nat} : slashRow n = [] ↔ n = 0 := by
  unfold slashRow
  simp
  omega
def joinRow (s : List Int) : List Int := s.dropLast ++ [if s.getLast? = some 47 then 48 else 39]
def toldHead (n : Nat) (piece : List Nat) : List Int :=
  if slashRow n ≠ [] ∧ piece.take 1 = [61] then joinRow (slashRow n) ++ rowP (piece.drop 1) else slashRow n ++ rowP piece

theorem joinRow_ss (n : Nat) : joinRow (slashRow (n + 3)) = 47 :: joinRow (slashRow (n + 1)) := by
  have ne : slashRow (n + 1) ≠ [] := by rw [Ne, slashRow_ne]; omega
  rw [show n + 3 = (n + 1) + 2 from rfl, slashRow_ss]
  unfold joinRow
  rw [List.dropLast_cons_of_ne_nil ne, List.getLast?_cons]
  obtain ⟨v, hv⟩ := Option.ne_none_iff_exists'.mp (by rw [Ne, List.getLast?_eq_none_iff]; exact ne : (slashRow (n + 1)).getLast? ≠ none)
  rw [hv]
  rfl

theorem slash_cut : ∀ (n : Nat) (rest : List Nat), rest.head? ≠ some 47 → cutL (List.replicate n 47 ++ rest) = if n ≠ 0 ∧ rest.take 1 = [61] then joinRow (slashRow n) ++ cutL (rest.drop 1) else slashRow n ++ cutL rest
  | 0, rest, _ => by simp [slashRow_0]
  | 1, rest, h => by
    have s17 : symL [47] = 17 := by decide +kernel
    have s39 : symL [47, 61] = 39 := by decide +kernel
    rw [show List.replicate 1 47 ++ rest = 47 :: rest from rfl, cutL_step (by simp)]
    match rest, h with
    | [], _ =>
      rw [pieceL_1, s17, if_neg (by simp)]
      rfl
    | [c], h =>
      have h : c ≠ 47 := by simpa using h
      rw [pieceL_2]
      by_cases hc : c = 61
      · subst hc
        rw [if_pos ((k2s h).mpr rfl), if_pos (by simp), s39]
        rfl
      · rw [if_neg (fun q => hc ((k2s h).mp q)), if_neg (by simp [hc]), s17]
        rfl
    | c :: d :: t, h =>
      have h : c ≠ 47 := by simpa using h
      rw [pieceL_3, if_neg (k3s h)]
      by_cases hc : c = 61
      · subst hc
        rw [if_pos ((k2s h).mpr rfl), if_pos (by simp), s39]
        rfl
      · rw [if_neg (fun q => hc ((k2s h).mp q)), if_neg (by simp [hc]), s17]
        rfl
  | 2, rest, h => by
    have s47 : symL [47, 47] = 47 := by decide +kernel
    have s48 : symL [47, 47, 61] = 48 := by decide +kernel
    rw [show List.replicate 2 47 ++ rest = 47 :: 47 :: rest from rfl, cutL_step (by simp)]
    match rest, h with
    | [], _ =>
      rw [pieceL_2, if_pos k2ss, s47, if_neg (by simp)]
      rfl
    | c :: t, h =>
      have h : c ≠ 47 := by simpa using h
      rw [pieceL_3]
      by_cases hc : c = 61
      · subst hc
        rw [if_pos (k3ss.mpr rfl), if_pos (by simp), s48]
        rfl
      · rw [if_neg (fun q => hc (k3ss.mp q)), if_pos k2ss, if_neg (by simp [hc]), s47]
        rfl
  | n + 3, rest, h => by
    have s47 : symL [47, 47] = 47 := by decide +kernel
    have ih := slash_cut (n + 1) rest h
    rw [show List.replicate (n + 3) 47 ++ rest = 47 :: 47 :: 47 :: (List.replicate n 47 ++ rest) from rfl, cutL_step (by simp), pieceL_3, if_neg (fun q => absurd (k3ss.mp q) (by decide)), if_pos k2ss, s47]
    rw [show List.drop [47, 47].length (47 :: 47 :: 47 :: (List.replicate n 47 ++ rest)) = List.replicate (n + 1) 47 ++ rest from rfl, ih]
    by_cases q : rest.take 1 = [61]
    · rw [if_pos ⟨Nat.succ_ne_zero _, q⟩, if_pos ⟨Nat.succ_ne_zero _, q⟩, joinRow_ss]; rfl
    · rw [if_neg (fun x => q x.2), if_neg (fun x => q x.2), show n + 3 = (n + 1) + 2 from rfl, slashRow_ss]; rfl

theorem takeWhile_47 (l : List Nat) : l.takeWhile (· == 47) = List.replicate (l.takeWhile (· == 47)).length 47 := by
  rw [List.eq_replicate_iff]
  refine ⟨rfl, fun b hb => ?_⟩
  have := List.all_takeWhile (l := l) (p := (· == 47))
  simpa using (List.all_eq_true.mp this b hb)
def runN (l : List Nat) : Nat := (l.takeWhile (· == 47)).length
def pieceW (l : List Nat) : List Nat := l.takeWhile (· != 47)
theorem run_app (l : List Nat) : List.replicate (runN l) 47 ++ l.drop (runN l) = l := by
  unfold runN
  rw [← takeWhile_47]
  conv => rhs; rw [← List.takeWhile_append_dropWhile (p := (· == 47)) (l := l)]
  congr 1
  conv => lhs; rhs; rw [← List.takeWhile_append_dropWhile (p := (· == 47)) (l := l)]
  rw [List.drop_left]
theorem run_head (l : List Nat) : (l.drop (runN l)).head? ≠ some 47 := by
  have : l.drop (runN l) = l.dropWhile (· == 47) := by
    conv => lhs; rhs; rw [← List.takeWhile_append_dropWhile (p := (· == 47)) (l := l)]
    unfold runN
    rw [List.drop_left]
  rw [this]
  intro h
  have := List.head?_dropWhile_not (p := (· == 47)) l
  rw [h] at this
  simp at this
theorem pieceW_app (l : List Nat) : pieceW l ++ l.drop (pieceW l).length = l := by
  unfold pieceW
  conv => rhs; rw [← List.takeWhile_append_dropWhile (p := (· != 47)) (l := l)]
  congr 1
  conv => lhs; rhs; rw [← List.takeWhile_append_dropWhile (p := (· != 47)) (l := l)]
  rw [List.drop_left]
theorem pieceW_behind (l : List Nat) : l.drop (pieceW l).length = [] ∨ (l.drop (pieceW l).length).head? = some 47 := by
  have : l.drop (pieceW l).length = l.dropWhile (· != 47) := by
    conv => lhs; rhs; rw [← List.takeWhile_append_dropWhile (p := (· != 47)) (l := l)]
    unfold pieceW
    rw [List.drop_left]
  rw [this]
  cases h : (l.dropWhile (· != 47)) with
  | nil => exact .inl rfl
  | cons c t =>
    right
    have := List.head?_dropWhile_not (p := (· != 47)) l
    rw [h] at this
    simp at this
    simp [this]
theorem pieceW_no (l : List Nat) : 47 ∉ pieceW l := by
  intro h
  have := List.all_takeWhile (l := l) (p := (· != 47))
  have := List.all_eq_true.mp this 47 h
  simp at this

theorem last_of_no {l : List Nat} (h : 47 ∉ l) : l.getLast? ≠ some 47 := fun q => h (List.mem_of_getLast? q)
/-- a run of slashes, what stands behind it to the next slash, and the rest -/
theorem told_step (l : List Nat) : cutL l = toldHead (runN l) (pieceW (l.drop (runN l))) ++ cutL ((l.drop (runN l)).drop (pieceW (l.drop (runN l))).length) := by
  have e := slash_cut (runN l) (l.drop (runN l)) (run_head l)
  rw [run_app] at e
  rw [e]
  generalize l.drop (runN l) = r
  have ea := pieceW_app r
  have eb := pieceW_behind r
  have no := pieceW_no r
  generalize hp : pieceW r = p at *
  generalize hz : r.drop p.length = z at *
  subst ea
  unfold toldHead
  rw [rowP_cut p no, rowP_cut (p.drop 1) (fun q => no (List.mem_of_mem_drop q))]
  have en : (slashRow (runN l) ≠ []) ↔ runN l ≠ 0 := not_congr slashRow_ne
  have et : ((p ++ z).take 1 = [61]) ↔ (p.take 1 = [61]) := by
    cases p with
    | nil => rcases eb with rfl | eb
             · simp
             · cases z with
               | nil => simp
               | cons c t => simp at eb; subst eb; simp
    | cons c t => simp
  by_cases q : runN l ≠ 0 ∧ p.take 1 = [61]
  · rw [if_pos ⟨q.1, et.mpr q.2⟩, if_pos ⟨en.mpr q.1, q.2⟩]
    have hp1 : 1 ≤ p.length := by
      cases p with
      | nil => simp at q
      | cons => simp
    rw [List.drop_append_of_le_length hp1, cutL_app _ _ (last_drop (last_of_no no)) eb, List.append_assoc]
  · rw [if_neg (fun x => q ⟨x.1, et.mp x.2⟩), if_neg (fun x => q ⟨en.mp x.1, x.2⟩), cutL_app _ _ (last_of_no no) eb, List.append_assoc]
theorem told_less {l : List Nat} (h : l ≠ []) : 1 ≤ runN l + (pieceW (l.drop (runN l))).length := by
  cases l with
  | nil => exact absurd rfl h
  | cons c r =>
    by_cases hc : c = 47
    · subst hc
      have : 1 ≤ runN (47 :: r) := by unfold runN; simp
      omega
    · have e : runN (c :: r) = 0 := by unfold runN; simp [hc]
      rw [e, List.drop_zero]
      have : 1 ≤ (pieceW (c :: r)).length := by unfold pieceW; simp [hc]
      omega
end Mine
end
section -- P4
example : True := by
  w_top off
  k_with_none
  trivial
open PySem PySem.W PyProof.Rows PySem.Calls
namespace Mine

/-- the beginnings that end in no slash and have a slash, or nothing, behind them: the longest first -/
def aR (pre : List Nat) : List Nat → List (List Nat)
  | [] => []
  | c :: r => aR (pre ++ [c]) r ++ (if c ≠ 47 ∧ (r = [] ∨ r.head? = some 47) then [pre ++ [c]] else [])

theorem aR_cons (pre : List Nat) (c : Nat) (r : List Nat) : aR pre (c :: r) = aR (pre ++ [c]) r ++ (if c ≠ 47 ∧ (r = [] ∨ r.head? = some 47) then [pre ++ [c]] else []) := rfl
theorem aR_slashes (n : Nat) : ∀ (ys pre : List Nat), aR pre (ys ++ List.replicate n 47) = aR pre ys
  | [], pre => by
    rw [List.nil_append]
    induction n generalizing pre with
    | zero => rfl
    | succ n ih =>
      rw [List.replicate_succ, aR_cons, ih]
      simp [aR]
  | c :: r, pre => by
    rw [List.cons_append, aR, aR, aR_slashes n r]
    congr 1
    have e : (r ++ List.replicate n 47 = [] ∨ (r ++ List.replicate n 47).head? = some 47) ↔ (r = [] ∨ r.head? = some 47) := by
      cases r with
      | nil => cases n <;> simp [List.replicate_succ]
      | cons d t => simp
    simp only [e]
theorem aR_piece0 : ∀ (p pre : List Nat), p ≠ [] → 47 ∉ p → aR pre p = [pre ++ p]
  | [], _, h, _ => absurd rfl h
  | [c], pre, _, no => by
    have : c ≠ 47 := by intro q; exact no (by simp [q])
    simp [aR, this]
  | c :: d :: t, pre, _, no => by
    rw [aR, aR_piece0 (d :: t) (pre ++ [c]) (by simp) (fun q => no (List.mem_cons_of_mem _ q))]
    have : d ≠ 47 := by intro q; exact no (by simp [q])
    simp [this]
theorem aR_piece : ∀ (h pre p : List Nat), p ≠ [] → 47 ∉ p → (h = [] ∨ h.getLast? = some 47) → aR pre (h ++ p) = (pre ++ h ++ p) :: aR pre h
  | [], pre, p, hp, no, _ => by
    rw [List.nil_append, aR_piece0 p pre hp no]
    simp [aR]
  | [c], pre, p, hp, no, hl => by
    have hc : c = 47 := by simpa using hl
    subst hc
    rw [List.cons_append, List.nil_append, aR, aR_piece0 p _ hp no]
    simp [aR]
  | c :: d :: t, pre, p, hp, no, hl => by
    have hl' : (d :: t) = [] ∨ (d :: t).getLast? = some 47 := by
      right
      rcases hl with q | q
      · simp at q
      · simpa using q
    rw [List.cons_append, aR_cons pre c, aR_piece (d :: t) (pre ++ [c]) p hp no hl', aR_cons pre c]
    have e : (((d :: t) ++ p = []) ∨ ((d :: t) ++ p).head? = some 47) ↔ ((d :: t) = [] ∨ (d :: t).head? = some 47) := by simp
    simp only [e]
    simp

/-! the symbols' heads -/
def lastOk (t : List Nat) : Prop := t.getLast? ≠ some 47
def innerOk : List Nat → Bool
  | c :: d :: r => (c == 47 || d != 47) && innerOk (d :: r)
  | _ => true
def nextOk (ts : List (List Nat)) : Prop := ts = [] ∨ (ts.headD []).head? = some 47
open Classical in
noncomputable def hR (pre : List (List Nat)) : List (List Nat) → List (List (List Nat))
  | [] => []
  | t :: r => hR (pre ++ [t]) r ++ (if lastOk t ∧ nextOk r then [pre ++ [t]] else [])

theorem aR_tok : ∀ (t pre rest : List Nat), t ≠ [] → innerOk t = true → aR pre (t ++ rest) = aR (pre ++ t) rest ++ (if t.getLast? ≠ some 47 ∧ (rest = [] ∨ rest.head? = some 47) then [pre ++ t] else [])
  | [], _, _, h, _ => absurd rfl h
  | [c], pre, rest, _, _ => by
    rw [List.cons_append, List.nil_append, aR]
    simp
  | c :: d :: r, pre, rest, _, hi => by
    have hi' : (c == 47 || d != 47) = true ∧ innerOk (d :: r) = true := by
      unfold innerOk at hi
      exact Bool.and_eq_true_iff.mp hi
    rw [List.cons_append, aR, aR_tok (d :: r) (pre ++ [c]) rest (by simp) hi'.2]
    have e : ¬ (c ≠ 47 ∧ ((d :: r) ++ rest = [] ∨ ((d :: r) ++ rest).head? = some 47)) := by
      have := hi'.1
      simp at this ⊢
      omega
    rw [if_neg e, List.append_nil]
    simp
theorem innerOk_piece {l : List Nat} (h : l ≠ []) : innerOk (pieceL l) = true := by
  match l, h with
  | [a], _ => rw [pieceL_1]; rfl
  | [a, b], _ =>
    rw [pieceL_2]
    split
    · rename_i k
      rw [key2] at k
      simp [innerOk]
      omega
    · rfl
  | a :: b :: c :: t, _ =>
    rw [pieceL_3]
    split
    · rename_i k
      rw [key3] at k
      simp [innerOk]
      omega
    · split
      · rename_i k
        rw [key2] at k
        simp [innerOk]
        omega
      · rfl
theorem toks_inner {l : List Nat} : ∀ t ∈ toks l, innerOk t = true := by
  induction l using toks.induct with
  | case1 => rw [toks_nil]; intro t ht; cases ht
  | case2 c r ih =>
    rw [toks_step (by simp)]
    intro t ht
    rcases List.mem_cons.mp ht with rfl | ht
    · exact innerOk_piece (by simp)
    · exact ih t ht
theorem aR_hR : ∀ (ts pre : List (List Nat)), (∀ t ∈ ts, t ≠ [] ∧ innerOk t = true) → aR pre.flatten ts.flatten = (hR pre ts).map List.flatten
  | [], _, _ => rfl
  | t :: r, pre, h => by
    have ht := h t (.head _)
    have ih := aR_hR r (pre ++ [t]) fun u hu => h u (.tail _ hu)
    rw [List.flatten_append, List.flatten_cons, List.flatten_nil, List.append_nil] at ih
    rw [List.flatten_cons, aR_tok _ _ _ ht.1 ht.2, ih, hR, List.map_append]
    congr 1
    have e : (r.flatten = [] ∨ r.flatten.head? = some 47) ↔ nextOk r := by
      unfold nextOk
      cases r with
      | nil => simp
      | cons u v =>
        have hu := (h u (.tail _ (.head _))).1
        cases u with
        | nil => exact absurd rfl hu
        | cons c t => simp
    have e2 : (t.getLast? ≠ some 47 ∧ (r.flatten = [] ∨ r.flatten.head? = some 47)) ↔ (lastOk t ∧ nextOk r) := and_congr Iff.rfl e
    by_cases q : lastOk t ∧ nextOk r
    · rw [if_pos (e2.mpr q), if_pos q]; simp
    · rw [if_neg (fun x => q (e2.mp x)), if_neg q]; simp

theorem pre_same : ∀ (P P' R R' : List (List Nat)), (∀ t ∈ P, t ≠ []) → (∀ t ∈ P', t ≠ []) → P ++ R = P' ++ R' → P.flatten = P'.flatten → P = P'
  | [], [], _, _, _, _, _, _ => rfl
  | [], p :: q, _, _, _, h', _, e => by
    exfalso
    have := h' p (.head _)
    rw [List.flatten_nil, List.flatten_cons] at e
    have := congrArg List.length e
    cases p with
    | nil => contradiction
    | cons => simp at this
  | p :: q, [], _, _, h, _, _, e => by
    exfalso
    have := h p (.head _)
    rw [List.flatten_nil, List.flatten_cons] at e
    have := congrArg List.length e
    cases p with
    | nil => contradiction
    | cons => simp at this
  | p :: q, p' :: q', R, R', h, h', e, f => by
    rw [List.cons_append, List.cons_append, List.cons.injEq] at e
    obtain ⟨rfl, e⟩ := e
    rw [List.flatten_cons, List.flatten_cons] at f
    rw [pre_same q q' R R' (fun t ht => h t (.tail _ ht)) (fun t ht => h' t (.tail _ ht)) e (List.append_cancel_left f)]
theorem hR_toks (xs : List Nat) : ∀ (ts pre : List (List Nat)), pre ++ ts = toks xs → ∀ P ∈ hR pre ts, toks P.flatten = P
  | [], _, _, P, hP => by cases hP
  | t :: r, pre, e, P, hP => by
    rw [hR] at hP
    have e' : (pre ++ [t]) ++ r = toks xs := by rw [← e]; simp
    rcases List.mem_append.mp hP with hP | hP
    · exact hR_toks xs r (pre ++ [t]) e' P hP
    · split at hP
      · rename_i q
        have hp : P = pre ++ [t] := by simpa using hP
        rw [hp]
        have all : ∀ u ∈ pre ++ [t], u ≠ [] := fun u hu => toks_ne (l := xs) u (by rw [← e']; exact List.mem_append_left _ hu)
        have allr : ∀ u ∈ r, u ≠ [] := fun u hu => toks_ne (l := xs) u (by rw [← e']; exact List.mem_append_right _ hu)
        have tne : t ≠ [] := all t (by simp)
        have fl : (pre ++ [t]).flatten ++ r.flatten = xs := by rw [← List.flatten_append, e', toks_flat]
        have hl : (pre ++ [t]).flatten.getLast? ≠ some 47 := by
          rw [List.flatten_append, List.flatten_cons, List.flatten_nil, List.append_nil, List.getLast?_append]
          cases ht : t.getLast? with
          | none => exact absurd (List.getLast?_eq_none_iff.mp ht) tne
          | some v => have := q.1; unfold lastOk at this; rw [ht] at this; simpa using this
        have hn : r.flatten = [] ∨ r.flatten.head? = some 47 := by
          rcases q.2 with rfl | q2
          · exact .inl rfl
          · cases r with
            | nil => exact .inl rfl
            | cons u v =>
              right
              have hu := allr u (.head _)
              cases u with
              | nil => exact absurd rfl hu
              | cons c t => simpa using q2
        have key := toks_app _ _ hl hn
        rw [fl, ← e'] at key
        refine (pre_same _ _ _ _ all (fun u hu => toks_ne u hu) key ?_).symm
        rw [toks_flat]
      · cases hP

/-! on the symbols -/
def goodS (v : Int) (r : List Int) : Prop := (v ≠ 17 ∧ v ≠ 47) ∧ (r = [] ∨ r.headD 0 = 17 ∨ r.headD 0 = 39 ∨ r.headD 0 = 47 ∨ r.headD 0 = 48)
open Classical in
noncomputable def hS (pre : List Int) : List Int → List (List Int)
  | [] => []
  | v :: r => hS (pre ++ [v]) r ++ (if goodS v r then [pre ++ [v]] else [])
def goodAt (row : List Int) (k : Nat) : Prop := goodS (row.getD k 0) (row.drop (k + 1))
open Classical in
noncomputable def hN (row : List Int) : Nat → List (List Int)
  | 0 => []
  | k + 1 => (if goodAt row k then [row.take (k + 1)] else []) ++ hN row k
open Classical in
theorem hN_hS (row : List Int) : ∀ (ts pre : List Int), row = pre ++ ts → hN row (pre.length + ts.length) = hS pre ts ++ hN row pre.length
  | [], pre, e => by simp [hS]
  | v :: r, pre, e => by
    have e' : row = (pre ++ [v]) ++ r := by rw [e]; simp
    have ih := hN_hS row r (pre ++ [v]) e'
    rw [List.length_append, List.length_cons, List.length_nil] at ih
    rw [List.length_cons, show pre.length + (r.length + 1) = pre.length + (0 + 1) + r.length by omega, ih, hS, List.append_assoc]
    show _ = hS (pre ++ [v]) r ++ ((if goodS v r then [pre ++ [v]] else []) ++ hN row pre.length)
    congr 1
    rw [show pre.length + (0 + 1) = pre.length + 1 from rfl, hN]
    congr 1
    have g : goodAt row pre.length ↔ goodS v r := by
      unfold goodAt
      rw [e]
      simp
    have t : row.take (pre.length + 1) = pre ++ [v] := by
      rw [e', List.take_append_of_le_length (by simp), List.take_of_length_le (by simp)]
    by_cases q : goodS v r
    · rw [if_pos (g.mpr q), if_pos q, t]
    · rw [if_neg (fun x => q (g.mp x)), if_neg q]
theorem hN_all (row : List Int) : hN row row.length = hS [] row := by
  have := hN_hS row row [] rfl
  simp only [List.length_nil, Nat.zero_add] at this
  rw [this]
  show hS [] row ++ [] = _
  rw [List.append_nil]

/-- a token: a key, or a sign of its own -/
def isTok (t : List Nat) : Prop := t ∈ tabN.map (·.1) ∨ ∃ c, t = [c] ∧ ettL [c] = none
theorem tok_piece {l : List Nat} (h : l ≠ []) : isTok (pieceL l) := by
  have one (c : Nat) : isTok [c] := by
    cases q : ettL [c] with
    | none => exact .inr ⟨c, rfl, q⟩
    | some v => exact .inl (ettL_mem.mp (by rw [q]; rfl))
  match l, h with
  | [a], _ => rw [pieceL_1]; exact one a
  | [a, b], _ =>
    rw [pieceL_2]
    split
    · rename_i k; exact .inl (ettL_mem.mp k)
    · exact one a
  | a :: b :: c :: t, _ =>
    rw [pieceL_3]
    split
    · rename_i k; exact .inl (ettL_mem.mp k)
    · split
      · rename_i k; exact .inl (ettL_mem.mp k)
      · exact one a
theorem toks_tok {l : List Nat} : ∀ t ∈ toks l, isTok t := by
  induction l using toks.induct with
  | case1 => rw [toks_nil]; intro t ht; cases ht
  | case2 c r ih =>
    rw [toks_step (by simp)]
    intro t ht
    rcases List.mem_cons.mp ht with rfl | ht
    · exact tok_piece (by simp)
    · exact ih t ht
theorem sym_last {t : List Nat} (h : isTok t) : lastOk t ↔ (symL t ≠ 17 ∧ symL t ≠ 47) := by
  rcases h with h | ⟨c, rfl, h⟩
  · obtain ⟨e, he, rfl⟩ := List.mem_map.mp h
    have key : ∀ e ∈ tabN, (e.1.getLast? ≠ some 47 ↔ (symL e.1 ≠ 17 ∧ symL e.1 ≠ 47)) := by decide +kernel
    exact key e he
  · have hc : c ≠ 47 := by rintro rfl; rw [show ettL [47] = some 17 by decide +kernel] at h; cases h
    have hs : symL [c] = 256 + (c : Int) := by unfold symL; rw [h]; rfl
    rw [hs]
    unfold lastOk
    simp only [List.getLast?_singleton, Option.some.injEq, ne_eq]
    omega
theorem sym_head {t : List Nat} (h : isTok t) : t.head? = some 47 ↔ (symL t = 17 ∨ symL t = 39 ∨ symL t = 47 ∨ symL t = 48) := by
  rcases h with h | ⟨c, rfl, h⟩
  · obtain ⟨e, he, rfl⟩ := List.mem_map.mp h
    have key : ∀ e ∈ tabN, (e.1.head? = some 47 ↔ (symL e.1 = 17 ∨ symL e.1 = 39 ∨ symL e.1 = 47 ∨ symL e.1 = 48)) := by decide +kernel
    exact key e he
  · have hc : c ≠ 47 := by rintro rfl; rw [show ettL [47] = some 17 by decide +kernel] at h; cases h
    have hs : symL [c] = 256 + (c : Int) := by unfold symL; rw [h]; rfl
    rw [hs]
    simp only [List.head?_cons, Option.some.injEq]
    omega
theorem hR_hS : ∀ (ts pre : List (List Nat)), (∀ t ∈ ts, isTok t) → (hR pre ts).map (List.map symL) = hS (pre.map symL) (ts.map symL)
  | [], _, _ => rfl
  | t :: r, pre, h => by
    rw [hR, List.map_cons, hS, List.map_append, hR_hS r (pre ++ [t]) fun u hu => h u (.tail _ hu)]
    congr 1
    · rw [List.map_append]; rfl
    have g : (lastOk t ∧ nextOk r) ↔ goodS (symL t) (r.map symL) := by
      unfold goodS
      refine and_congr (sym_last (h t (.head _))) ?_
      unfold nextOk
      cases r with
      | nil => simp
      | cons u v =>
        have := sym_head (h u (.tail _ (.head _)))
        simp only [List.headD_cons, List.map_cons, reduceCtorEq, false_or]
        exact this
    by_cases q : lastOk t ∧ nextOk r
    · rw [if_pos q, if_pos (g.mp q)]; simp
    · rw [if_neg q, if_neg (fun x => q (g.mpr x))]; rfl

/-- the law's heads are the cuts of the beginnings -/
theorem heads_eq (xs : List Nat) : (aR [] xs).map cutL = hN (cutL xs) (cutL xs).length := by
  have e1 := aR_hR (toks xs) [] fun t ht => ⟨toks_ne t ht, toks_inner t ht⟩
  rw [toks_flat, List.flatten_nil] at e1
  rw [e1, List.map_map, hN_all]
  have e2 := hR_hS (toks xs) [] fun t ht => toks_tok t ht
  rw [List.map_nil] at e2
  show _ = hS [] ((toks xs).map symL)
  rw [← e2]
  refine List.map_congr_left fun P hP => ?_
  show (toks P.flatten).map symL = P.map symL
  rw [hR_toks xs (toks xs) [] rfl P hP]

/-! spelt -/
theorem spelt_eq (xs : List Nat) : ((cutL xs).filter (fun v => decide (256 ≤ v))).map (fun v => (v - 256).toNat) = xs.filter (fun c => (ettL [c]).isNone) := by
  have one : ∀ ts : List (List Nat), (∀ t ∈ ts, isTok t) → ((ts.map symL).filter (fun v => decide (256 ≤ v))).map (fun v => (v - 256).toNat) = ts.flatten.filter (fun c => (ettL [c]).isNone) := by
    intro ts
    induction ts with
    | nil => intro _; rfl
    | cons t r ih =>
      intro h
      have ih := ih fun u hu => h u (.tail _ hu)
      rw [List.map_cons, List.flatten_cons, List.filter_append, ← ih]
      rcases h t (.head _) with k | ⟨c, rfl, k⟩
      · obtain ⟨e, he, rfl⟩ := List.mem_map.mp k
        have key : ∀ e ∈ tabN, decide (256 ≤ symL e.1) = false ∧ e.1.filter (fun c => (ettL [c]).isNone) = [] := by decide +kernel
        obtain ⟨k1, k2⟩ := key e he
        rw [List.filter_cons_of_neg (by rw [k1]; simp), k2, List.nil_append]
      · have hs : symL [c] = 256 + (c : Int) := by unfold symL; rw [k]; rfl
        rw [hs, List.filter_cons_of_pos (by simp <;> omega), List.map_cons, show (256 + (c : Int) - 256).toNat = c by omega]
        simp [k]
  have := one (toks xs) fun t ht => toks_tok t ht
  rw [toks_flat] at this
  exact this
end Mine
end
section -- W1
example : True := by
  w_top off
  k_with_none
  trivial
open PySem PySem.W PyProof.Rows PySem.Calls
open PySem.Builtin.Str PySem.Txt PyProof
namespace Mine

abbrev cs (x : Str) : List Nat := x.cps.toList
theorem St_cs (x : Str) : St (cs x) = x := by obtain ⟨⟨l⟩⟩ := x; rfl
theorem cs_St (l : List Nat) : cs (St l) = l := rfl
theorem len_cs (x : Str) : x.length = (cs x).length := by simp [Str.length]
theorem len_St (l : List Nat) : (St l).length = l.length := by simp [St, Str.length]
theorem min_toNat (i n : Nat) : max (0 : Int) (min (i : Int) (n : Int)) = ((min i n : Nat) : Int) := by
  rcases Nat.le_total i n with h | h
  · rw [Nat.min_eq_left h, Int.min_eq_left (Int.ofNat_le.mpr h), Int.max_eq_right (Int.natCast_nonneg i)]
  · rw [Nat.min_eq_right h, Int.min_eq_right (Int.ofNat_le.mpr h), Int.max_eq_right (Int.natCast_nonneg n)]
theorem nonneg_nat (i : Nat) : ¬ ((i : Int) < 0) := Int.not_lt.mpr (Int.natCast_nonneg i)
theorem strSlice_clip (i j n : Nat) : strSliceIndices (some (i : Int)) (some (j : Int)) 1 n = strSliceIndices (some ((min i n : Nat) : Int)) (some ((min j n : Nat) : Int)) 1 n := by
  simp only [strSliceIndices, nonneg_nat, if_false, show ((1 : Int) > 0) = True from by simp, if_true, min_toNat, Nat.min_assoc, Nat.min_self]
theorem strSlice_empty {i j n : Nat} (h : j ≤ i) : strSliceIndices (some (i : Int)) (some (j : Int)) 1 n = [] := by
  have h3 : ¬ (((min i n : Nat) : Int) < ((min j n : Nat) : Int)) := Int.not_lt.mpr (Int.ofNat_le.mpr (Nat.le_min.mpr ⟨Nat.le_trans (Nat.min_le_left _ _) h, Nat.min_le_right _ _⟩))
  simp only [strSliceIndices, sliceRange, nonneg_nat, h3, if_false, show ((1 : Int) > 0) = True from by simp, if_true, min_toNat]
  rfl
theorem whole_len {i j n : Nat} (hl : min j n - min i n = n) : min j n - i = n := by
  rcases Nat.eq_zero_or_pos n with h | h
  · subst h; rw [Nat.min_zero, Nat.zero_sub]
  · have a := Nat.sub_le_sub_right (Nat.min_le_right j n) (min i n)
    rw [hl] at a
    have b : min i n = 0 := by
      rcases Nat.eq_zero_or_pos (min i n) with q | q
      · exact q
      · exact absurd a (Nat.not_le.mpr (Nat.sub_lt h q))
    rw [b] at hl
    rcases Nat.le_total i n with q | q
    · rw [Nat.min_eq_left q] at b; rw [b]; exact hl
    · rw [Nat.min_eq_right q] at b; exact absurd b (Nat.ne_of_gt h)
theorem slice_ij (x : Str) (i j : Nat) : Txt.slice x (some (i : Int)) (some (j : Int)) = St (((cs x).take j).drop i) := by
  have hx := len_cs x
  have mm : i ≤ j → min i x.length ≤ min j x.length := fun h => Nat.le_min.mpr ⟨Nat.le_trans (Nat.min_le_left _ _) h, Nat.min_le_right _ _⟩
  have key : ((strSliceIndices (some (i : Int)) (some (j : Int)) 1 x.length).filterMap (x.cps[·]?)) = ((cs x).take j).drop i := by
    by_cases h : i ≤ j
    · rw [strSlice_clip, StrLaws.sliced_plain x (mm h) (Nat.min_le_right _ _), List.drop_take]
      by_cases h2 : i ≤ x.length
      · rw [Nat.min_eq_left h2, List.take_eq_take_iff, List.length_drop, ← len_cs]
        rcases Nat.le_total j x.length with q | q
        · rw [Nat.min_eq_left q]
        · rw [Nat.min_eq_right q, Nat.min_self, Nat.min_eq_right (Nat.sub_le_sub_right q i)]
      · have h2 := Nat.le_of_not_le h2
        rw [List.drop_of_length_le (by rw [← len_cs, Nat.min_eq_right h2]; exact Nat.le_refl _), List.drop_of_length_le (by rw [← len_cs]; exact h2), List.take_nil, List.take_nil]
    · have h := Nat.le_of_not_le h
      rw [strSlice_empty h, List.drop_of_length_le (by rw [List.length_take]; exact Nat.le_trans (Nat.min_le_left _ _) h)]; rfl
  unfold Txt.slice
  rw [key]
  split
  · rename_i hl
    have hl : (strSliceIndices (some (i : Int)) (some (j : Int)) 1 x.length).length = x.length := by simpa using hl
    have e : ((cs x).take j).drop i = cs x := by
      refine ((List.drop_sublist _ _).trans (List.take_sublist _ _)).eq_of_length ?_
      rw [List.length_drop, List.length_take, ← len_cs]
      by_cases h : i ≤ j
      · rw [strSlice_clip, StrLaws.strSliceIndices_plain (mm h) (Nat.min_le_right _ _), List.length_map, List.length_range] at hl
        exact whole_len hl
      · have h := Nat.le_of_not_le h
        rw [strSlice_empty h] at hl
        rw [← show ([] : List Nat).length = x.length from hl]
        rw [List.length_nil, Nat.min_zero, Nat.zero_sub]
    rw [e, St_cs]
  · rfl
theorem slice_k (x : Str) (k j : Nat) : Txt.slice x (some (k : Int)) (some ((k : Int) + (j : Int))) = St (((cs x).drop k).take j) := by
  have := slice_ij x k (k + j)
  rw [Int.natCast_add] at this
  rw [this, List.drop_take, Nat.add_sub_cancel_left]
theorem slice_k2 (x : Str) (k : Nat) : Txt.slice x (some (k : Int)) (some ((k : Int) + 2)) = St (((cs x).drop k).take 2) := slice_k x k 2
theorem slice_k3 (x : Str) (k : Nat) : Txt.slice x (some (k : Int)) (some ((k : Int) + 3)) = St (((cs x).drop k).take 3) := slice_k x k 3
theorem charAt_nat {x : Str} {k : Nat} (h : k < x.length) : charAt x (k : Int) = (cs x)[k]? := by
  unfold Txt.charAt seqIndex?
  have h1 : ¬ ((k : Int) < 0) := by omega
  have h2 : ¬ ((x.length : Int) ≤ (k : Int)) := by omega
  simp [h1, h2, h]
theorem item_k {x : Str} {k : Nat} (h : k < x.length) : Txt.item x (k : Int) = St (((cs x).drop k).take 1) := by
  have hx := len_cs x
  unfold Txt.item
  rw [charAt_nat h, List.getElem?_eq_getElem (by omega), List.drop_eq_getElem_cons (by omega)]
  rfl

theorem split_stmt {M : Model} {A : Around} {t : Sem Flow} {Q : Flow → Shared → Prop} {E : Value → Shared → Prop} {s : Shared} (P : Shared → Prop)
    (h1 : wpAny M A t (fun f s' => Hold (f = .next ∧ P s')) E s) (h2 : ∀ s', P s' → Q .next s') : wpAny M A t Q E s :=
  wpAny_mono h1 (fun f s' h => by obtain ⟨rfl, h⟩ := h; exact h2 s' h) fun _ _ h => h

def TurnEnd (n : Nat) (I : Nat → Shared → Prop) (R : Result → Shared → Prop) (f : Flow) (s : Shared) : Prop := match f with
  | .next | .cont => ∃ m, m < n ∧ I m s
  | .brk => R (.ok .next) s
  | .ret v => R (.ok (.ret v)) s
theorem TurnEnd.next {n : Nat} {I : Nat → Shared → Prop} {R : Result → Shared → Prop} {s : Shared} (m : Nat) (hm : m < n) (h : I m s) : TurnEnd n I R .next s := ⟨m, hm, h⟩
theorem my_while {prog : Program} {w : World} {A : Around} {E : Value → Shared → Prop} {s : Shared} {test : Expr} {body : List Stmt} {env : Env} {pos : Pos} {Q : Flow → Shared → Prop} (I : Nat → Shared → Prop) (n : Nat) (h : I n s)
    (turn : ∀ n s, I n s →
      wpAny (model prog w) A (isTrue test env (eval test env)) (fun b s₂ =>
        if b then wpAny (model prog w) A (execs body env) (TurnEnd n I (fun r s' => match r with | .ok f => Q f s' | .error e => cameBackBy (model prog w) A env E e s')) (notedBy (model prog w) A env fun e s' => cameBackBy (model prog w) A env E e s') s₂
        else Q .next s₂) (notedBy (model prog w) A env fun e s' => cameBackBy (model prog w) A env E e s') s) :
    wpAny (model prog w) A (exec (.While test body [] pos) env) Q E s := by
  refine wpAny_While (codeAny_whileLoop I (fun n s hI => wpAny_mono (turn n s hI) (fun b s₂ hb => ?_) fun _ _ e => e) n h)
  cases b with
  | false =>
    simp only [Bool.false_eq_true, if_false] at hb ⊢
    exact wpAny_execs_nil hb
  | true =>
    simp only [if_true] at hb ⊢
    refine wpAny_mono hb (fun f s₃ hf => ?_) fun _ _ e => e
    cases f <;> exact hf
theorem news_sub {h₀ : Heap} {L : Addr} {h : Heap} {news news' : List (Addr × Obj)} (N : News h₀ L h news) (hs : ∀ p ∈ news', p ∈ news) : News h₀ L h news' := fun p hp => N p (hs p hp)

theorem ints_snoc {vs : List Value} {ns : List Int} (h : IntsAre vs ns) (i : Int) (t : Tok) : IntsAre (vs ++ [.int i t]) (ns ++ [i]) := by
  induction h with
  | nil => exact .cons i t .nil
  | cons n t' _ ih => exact .cons n t' ih
theorem ints_len {vs : List Value} {ns : List Int} (h : IntsAre vs ns) : vs.length = ns.length := by
  induction h with
  | nil => rfl
  | cons n t' _ ih => simp [ih]
theorem sym_some {l : List Nat} (h : (ett (St l)).isSome = true) : (ett (St l)).getD 0 = symL l := by
  rw [ett_St] at *
  unfold symL
  obtain ⟨v, hv⟩ := Option.isSome_iff_exists.mp h
  rw [hv]; rfl
theorem sym_none {l : List Nat} (h : (ett (St l)).isSome = false) : 256 + (((St l).cps.getD 0 0 : Nat) : Int) = symL l := by
  rw [ett_St] at h
  unfold symL
  have hn : ettL l = none := by
    cases q : ettL l with
    | none => rfl
    | some v => rw [q] at h; cases h
  rw [hn]
  cases l <;> rfl
theorem one_none {l : List Nat} (h : (ett (St (pieceL l))).isSome = false) (hl : l ≠ []) : (St (pieceL l)).length = 1 := by
  rw [ett_St] at h
  rw [len_St]
  match l, hl with
  | [a], _ => rw [pieceL_1]; rfl
  | [a, b], _ =>
    rw [pieceL_2] at h ⊢
    split
    · rename_i q; rw [if_pos q] at h; rw [q] at h; cases h
    · rfl
  | a :: b :: c :: t, _ =>
    rw [pieceL_3] at h ⊢
    split
    · rename_i q; rw [if_pos q] at h; rw [q] at h; cases h
    · rename_i q0
      rw [if_neg q0] at h
      split
      · rename_i q; rw [if_pos q] at h; rw [q] at h; cases h
      · rfl
theorem drop_ne {x : Str} {k : Nat} (h : k < x.length) : (cs x).drop k ≠ [] := by
  intro e
  have := congrArg List.length e
  rw [List.length_drop, ← len_cs] at this
  simp at this
  omega

theorem turn_lt {n k p : Nat} (h1 : k < n) (h2 : 1 ≤ p) (h3 : p ≤ n - k) : n - (k + p) < n - k ∧ k + p ≤ n := by omega
theorem snoc_len {vs : List Value} {v : Value} {k p : Nat} (h1 : vs.length ≤ k) (h2 : 1 ≤ p) : (vs ++ [v]).length ≤ k + p := by rw [List.length_append]; exact Nat.add_le_add h1 h2
end Mine
end
section -- C1
example : True := by
  w_top off
  k_with_none
  trivial
open PySem PySem.W PyProof.Rows PySem.Calls
namespace Mine
local macro_rules | `(tactic| walk_at $s:str) => `(tactic| k_extra $s)
example : Mine.rwS = Mine.rwS ∧ hd.heap_39 = hd.heap_39 := by k_fill; exact ⟨rfl, rfl⟩

theorem piece_case3 {x : Str} {k : Nat} (h : (ett (Txt.slice x (some (k : Int)) (some ((k : Int) + 3)))).isSome = true) : St (pieceL ((cs x).drop k)) = Txt.slice x (some (k : Int)) (some ((k : Int) + 3)) := by
  rw [slice_k3, ett_St] at *
  unfold pieceL
  rw [if_pos h]
theorem piece_case2 {x : Str} {k : Nat} (h : (ett (Txt.slice x (some (k : Int)) (some ((k : Int) + 3)))).isSome = false) (h' : (ett (Txt.slice x (some (k : Int)) (some ((k : Int) + 2)))).isSome = true) : St (pieceL ((cs x).drop k)) = Txt.slice x (some (k : Int)) (some ((k : Int) + 2)) := by
  rw [slice_k2, ett_St] at *
  rw [slice_k3, ett_St] at h
  unfold pieceL
  rw [if_neg (by rw [h]; simp), if_pos h']
theorem piece_case1 {x : Str} {k : Nat} (h : (ett (Txt.slice x (some (k : Int)) (some ((k : Int) + 3)))).isSome = false) (h' : (ett (Txt.slice x (some (k : Int)) (some ((k : Int) + 2)))).isSome = false) (hk : k < x.length) : St (pieceL ((cs x).drop k)) = Txt.item x (k : Int) := by
  rw [slice_k2, ett_St] at *
  rw [slice_k3, ett_St] at h
  rw [item_k hk]
  unfold pieceL
  rw [if_neg (by rw [h]; simp), if_neg (by rw [h']; simp)]

example : True := by
  k_with "compareOp In str ref" => ((k_here; (with_reducible show wpAny _ _ (compareOp CmpOp.In (Value.str _ _) (Value.ref 111)) _ _ _); refine' in_ett ?k1 ?k2 ?_; (case k1 => k_asm); (case k2 => k_asm)))
  trivial
example : True := by
  k_with "subscriptTail" => ((k_here; (with_reducible show wpAny _ _ (subscriptTail _ _ (Value.ref 111) (Value.str _ _)) _ _ _); refine' item_ettS ?k1 ?k2 ?k3 ?_; (case k1 => k_asm); (case k2 => k_asm); (case k3 => with_reducible assumption)))
  trivial
example : True := by
  k_with "exec For Name Tuple cons nil" => (refine Hold.mk ?_)
  trivial

example : True := by
  k_with "call builtin:ord" => ((k_here; refine ord_of_one (one_none (by with_reducible assumption) (by with_reducible assumption)) ?_))
  trivial
example : True := by
  k_with "ps_one" => (rfl)
  trivial
example : True := by
  k_with "ps_all" => (repeat (first | exact List.forall_mem_nil _ | (refine List.forall_mem_cons.mpr ⟨by walk_at "ps_one", ?_⟩)))
  trivial
set_option maxHeartbeats 4000000 in
theorem cut_spec {w : World} {mean : ExcName → Option Value} {mg mb : Str → Option Value} {A₀ : Around} {base h₀ : Heap} {outer : List Env} {L : Addr} {m : Str → Option Value} {s : Shared} {news : List (Addr × Obj)} {Q E : Value → Shared → Prop}
    {gd : Option (List Code)} {cn : Str} {cs' : Scope} {a : Addr} {ccd : Value} {cl : List (Str × Addr)} {p : Program} {loose : List Str}
    (B : Below A₀ base outer h₀) (F : Fr h₀ L s.heap m) (KX : (hd.heap_39 w.params).In h₀) (N : News h₀ L s.heap news) (T : Top p loose mean mg mb h₀) (hk : cs'.kind = .function)
    (x : Str) (t : Tok) (hx : x.length ≤ 40)
    (ret : ∀ r (vs : List Value) n tk h', Fr h₀ L h' m → News h₀ L h' ((r, listOf vs.toArray n) :: news) → IntsAre vs (cutL (cs x)) → vs.length ≤ 40 → (∀ p ∈ news, p.1 < r) → Q (.ref r) { s with heap := h', toks := tk }) :
    wpAny (model Mine.rwS.row.prog w) (ktrTop 400 100 gd cn cs' L a ccd cl outer) (call (.ref 155) [.str x t]) Q E s := by
  k_with "exec While Compare cons nil" => refine Hold.mk ?_
  refine wpAny_call ?_
  k_dflt cell_enter
  k_steps
  refine Hold.out ?_
  rename_i g L1 h1 FG B1 X1 T1 tk0 lr h2 hlr h3 h4 F1 N1
  have F2 := fr_canon F1 [("text", .str x t), ("row", .ref lr), ("at", .int 0 tk)] (by
    intro p hp
    simp only [List.mem_cons, List.not_mem_nil, or_false] at hp
    rcases hp with rfl | rfl | rfl <;> rfl)
  clear F1
  obtain ⟨I, hI⟩ : ∃ I : Nat → Shared → Prop, ∀ n s', I n s' ↔ (∃ (k : Nat) (vs : List Value) (nn : Nat) (u : Str → Option Value) (tk ta : Nat) (h' : Heap), n = x.length - k ∧ k ≤ x.length ∧
      Fr g L1 h' (kstB u [("text", .str x t), ("row", .ref lr), ("at", .int (k : Int) ta)]) ∧ News g L1 h' ((lr, listOf vs.toArray nn) :: news) ∧ (∃ done, IntsAre vs done ∧ cutL (cs x) = done ++ cutL ((cs x).drop k)) ∧ vs.length ≤ k ∧
      s' = { s with heap := h', toks := tk }) := ⟨_, fun _ _ => Iff.rfl⟩
  refine my_while I x.length ?init ?turn
  case init => exact (hI _ _).mpr ⟨0, [], 0, _, _, _, _, by simp, Nat.zero_le _, F2, N1, ⟨[], .nil, rfl⟩, Nat.le_refl _, rfl⟩
  case turn =>
    intro n s' hs'
    obtain ⟨k, vs, nn, u, tk, ta, h', rfl, hkx, F1, N1, ⟨done, hIv, hd⟩, hvs, rfl⟩ := (hI _ _).mp hs'
    clear hs'
    k_steps
    · refine Hold.out ?_
      obtain ⟨J, hJ⟩ : ∃ J : Shared → Prop, ∀ s', J s' ↔ (∃ (u : Str → Option Value) (tk tp : Nat) (h' : Heap), Fr g L1 h' (kstB u [("text", .str x t), ("row", .ref lr), ("at", .int (k : Int) ta), ("piece", .str (St (pieceL ((cs x).drop k))) tp)]) ∧
         News g L1 h' ((lr, listOf vs.toArray nn) :: news) ∧ s' = { s with heap := h', toks := tk }) := ⟨_, fun _ => Iff.rfl⟩
      refine split_stmt J ?_ ?_
      · ((rename Fr _ _ _ _ => F'); (with_reducible apply For_unrF); (case _F => with_unfolding_all exact F'); (case hs => (intro _; with_unfolding_all rfl)))
        k_steps
        all_goals
          rename Fr _ _ _ _ => F9
          rename News _ _ _ _ => N9
          refine Hold.out ⟨rfl, (hJ _).mpr ?_⟩
          first | rw [piece_case3 (x := x) (k := k) (by with_reducible assumption)] | rw [piece_case2 (x := x) (k := k) (by with_reducible assumption) (by with_reducible assumption)] | rw [piece_case1 (x := x) (k := k) (by with_reducible assumption) (by with_reducible assumption) (by omega)]
          refine ⟨_, _, _, _, fr_canon F9 [("text", .str x t), ("row", .ref lr), ("at", .int (k : Int) ta), ("piece", _)] (by walk_at "ps_all"), news_sub N9 (by kst_allIn), rfl⟩
      · intro s' hs'
        obtain ⟨u, tk, tp, h', F1, N1, rfl⟩ := (hJ _).mp hs'
        clear hs'
        have hkl : k < x.length := by omega
        have hne := drop_ne hkl
        have hp1 := pieceL_pos hne
        have hpl := pieceL_len ((cs x).drop k)
        rw [List.length_drop, ← len_cs] at hpl
        have hl3 := pieceL_le3 ((cs x).drop k)
        rw [← len_St] at hl3
        have hstep := cutL_step hne
        rw [List.drop_drop] at hstep
        k_steps
        all_goals
          rename Fr _ _ _ _ => F9
          rename News _ _ _ _ => N9
          rw [List.push_toArray] at N9
          refine TurnEnd.next (x.length - (k + (pieceL ((cs x).drop k)).length)) (turn_lt hkl hp1 hpl).1 ((hI _ _).mpr ⟨k + (pieceL ((cs x).drop k)).length, _, _, _, _, _, _, rfl, (turn_lt hkl hp1 hpl).2,
            fr_canon F9 [("text", .str x t), ("row", .ref lr), ("at", .int ((k + (pieceL ((cs x).drop k)).length : Nat) : Int) _)] (by walk_at "ps_all"), N9, ⟨_, ints_snoc hIv _ _, ?_⟩, snoc_len hvs hp1, rfl⟩)
          rw [hd, hstep, List.append_assoc]
          first | rw [sym_some (by with_reducible assumption)] | rw [sym_none (by with_reducible assumption)]
          rfl
    · refine ret lr vs nn _ _ ?_ ?_ ?_ (by omega) hlr
      · assumption
      · assumption
      · have e : k = x.length := by omega
        rw [e, List.drop_of_length_le (by rw [← len_cs]; omega), cutL_nil, List.append_nil] at hd
        rw [hd]
        exact hIv
end Mine
end
section -- O1
example : True := by
  w_top off
  k_with_none
  trivial
open PySem PySem.W PyProof.Rows PySem.Calls
namespace Mine
local macro_rules | `(tactic| walk_at $s:str) => `(tactic| k_extra $s)
example : Mine.rwS = Mine.rwS ∧ hd.heap_39 = hd.heap_39 := by k_fill; exact ⟨rfl, rfl⟩

def ordL : List (List Nat) := [[40], [41], [91], [93], [58], [44], [59], [43], [45], [42], [47], [124], [38], [60], [62], [61], [46], [37], [123], [125], [61, 61], [33, 61], [60, 61], [62, 61], [126], [94], [60, 60], [62, 62], [42, 42], [43, 61], [45, 61], [42, 61], [47, 61], [37, 61], [38, 61], [124, 61], [94, 61], [60, 60, 61], [62, 62, 61], [42, 42, 61], [47, 47], [47, 47, 61], [64], [64, 61], [45, 62], [46, 46, 46], [58, 61], [33]]
theorem ord_split : Txt.split (Str.ofString "( ) [ ] : , ; + - * / | & < > = . % { } == != <= >= ~ ^ << >> ** += -= *= /= %= &= |= ^= <<= >>= **= // //= @ @= -> ... :" ++ Str.ofString "= !") (Str.ofString " ") = ordL.map St := by decide +kernel
set_option maxHeartbeats 4000000 in
theorem order_spec {w : World} {mean : ExcName → Option Value} {mg mb : Str → Option Value} {A₀ : Around} {base h₀ : Heap} {outer : List Env} {L : Addr} {m : Str → Option Value} {s : Shared} {news : List (Addr × Obj)} {Q E : Value → Shared → Prop}
    {gd : Option (List Code)} {cn : Str} {cs' : Scope} {a : Addr} {ccd : Value} {cl : List (Str × Addr)} {p : Program} {loose : List Str}
    (B : Below A₀ base outer h₀) (F : Fr h₀ L s.heap m) (KX : (hd.heap_39 w.params).In h₀) (N : News h₀ L s.heap news) (T : Top p loose mean mg mb h₀) (hk : cs'.kind = .function)
    (ret : ∀ r (vs : List Value) n tk h', Fr h₀ L h' m → News h₀ L h' ((r, listOf vs.toArray n) :: news) → StrsAre vs (ordL.map St) → Q (.ref r) { s with heap := h', toks := tk }) :
    wpAny (model Mine.rwS.row.prog w) (ktrTop 400 100 gd cn cs' L a ccd cl outer) (call (.ref 127) []) Q E s := by
  refine wpAny_call ?_
  k_dflt cell_enter
  k_steps
  with_reducible rename List.map _ _ = Txt.split _ _ => e
  with_reducible rename StrsAre _ _ => hS
  rw [e, ord_split] at hS
  exact ret _ _ _ _ _ (by with_reducible assumption) (by with_reducible assumption) hS

def signC (x : Int) : Nat :=
  if (x.fmod 552960).fmod 10 = 8 then (32 + ((x.fmod 552960).fdiv 10).fmod 96).toNat else if (x.fmod 552960).fmod 10 = 9 then ((x.fmod 552960).fdiv 10).toNat else (Txt.charAt (Str.ofString "//=*.->a") ((x.fmod 552960).fmod 10)).getD 0
theorem signC_le (x : Int) : signC x ≤ 1114111 := by
  have h1 : 0 ≤ x.fmod 552960 := Int.fmod_nonneg_of_pos _ (by decide)
  have h2 : x.fmod 552960 < 552960 := Int.fmod_lt_of_pos _ (by decide)
  have h4 : ((x.fmod 552960).fdiv 10).fmod 96 < 96 := Int.fmod_lt_of_pos _ (by decide)
  have h5 : (x.fmod 552960).fdiv 10 = (x.fmod 552960) / 10 := Int.fdiv_eq_ediv_of_nonneg _ (by decide)
  unfold signC
  split
  · exact Int.toNat_le.mpr (Int.le_trans (Int.add_le_add_left (Int.le_of_lt h4) 32) (by decide))
  · split
    · rw [h5]
      exact Int.toNat_le.mpr (Int.le_trans (Int.ediv_le_self 10 h1) (Int.le_trans (Int.le_of_lt h2) (by decide)))
    · have h6 : 0 ≤ (x.fmod 552960).fmod 10 := Int.fmod_nonneg_of_pos _ (by decide)
      have h7 : (x.fmod 552960).fmod 10 < 10 := Int.fmod_lt_of_pos _ (by decide)
      obtain ⟨n, hn⟩ := Int.eq_ofNat_of_zero_le h6
      rw [hn] at h7 ⊢
      have key : ∀ n < 10, (Txt.charAt (Str.ofString "//=*.->a") ((n : Nat) : Int)).getD 0 ≤ 1114111 := by decide +kernel
      exact key n (Int.ofNat_lt.mp h7)
set_option maxHeartbeats 4000000 in
theorem sign_spec {w : World} {mean : ExcName → Option Value} {mg mb : Str → Option Value} {A₀ : Around} {base h₀ : Heap} {outer : List Env} {L : Addr} {m : Str → Option Value} {s : Shared} {news : List (Addr × Obj)} {Q E : Value → Shared → Prop}
    {gd : Option (List Code)} {cn : Str} {cs' : Scope} {a : Addr} {ccd : Value} {cl : List (Str × Addr)} {p : Program} {loose : List Str}
    (B : Below A₀ base outer h₀) (F : Fr h₀ L s.heap m) (KX : (hd.heap_39 w.params).In h₀) (N : News h₀ L s.heap news) (T : Top p loose mean mg mb h₀) (hk : cs'.kind = .function) (x : Int) (t : Tok)
    (ret : ∀ t' tk h', Fr h₀ L h' m → News h₀ L h' news → Q (.str (St [signC x]) t') { s with heap := h', toks := tk }) :
    wpAny (model Mine.rwS.row.prog w) (ktrTop 400 100 gd cn cs' L a ccd cl outer) (call (.ref 134) [.int x t]) Q E s := by
  have ret' : ∀ y t' tk h', y = St [signC x] → Fr h₀ L h' m → News h₀ L h' news → Q (.str y t') { s with heap := h', toks := tk } := by
    rintro y t' tk h' rfl F N; exact ret _ _ _ F N
  refine wpAny_call ?_
  k_dflt cell_enter
  k_steps
  all_goals refine ret' _ _ _ _ ?_ (by with_reducible assumption) (by with_reducible assumption)
  · unfold signC
    rw [if_pos (by assumption)]; rfl
  · unfold signC
    rw [if_neg (by assumption), if_pos (by assumption)]; rfl
  · unfold signC
    rw [if_neg (by assumption), if_neg (by assumption)]; rfl
end Mine
end
section -- W2
example : True := by
  w_top off
  k_with_none
  trivial
open PySem PySem.W PyProof.Rows PySem.Calls
namespace Mine
local macro_rules | `(tactic| walk_at $s:str) => `(tactic| k_extra $s)
example : Mine.rwS = Mine.rwS ∧ hd.heap_39 = hd.heap_39 := by k_fill; exact ⟨rfl, rfl⟩

open PyProof PySem.SeqAt
theorem strs_at {vs : List Value} {ys : List Str} (h : StrsAre vs ys) : ∀ (j : Nat) (h1 : j < vs.length) (h2 : j < ys.length), ∃ t, vs[j] = .str ys[j] t := by
  induction h with
  | nil => intro j h1; simp at h1
  | cons x t r ih =>
    intro j h1 h2
    cases j with
    | zero => exact ⟨_, rfl⟩
    | succ j => exact ih j (by simpa using h1) (by simpa using h2)
theorem strs_len {vs : List Value} {ys : List Str} (h : StrsAre vs ys) : vs.length = ys.length := by
  induction h with
  | nil => rfl
  | cons x t r ih => simp [ih]
section
variable {prog : Program} {w : World} {A : Around} {E : Value → Shared → Prop} {s : Shared} {h₀ : Heap} {L : Addr} {m : Str → Option Value} {news : List (Addr × Obj)}
theorem index_list_strs {l : Addr} {vs : List Value} {ys : List Str} {k : Str} {t : Tok} {Q : Value → Shared → Prop} (hl : s.heap.IsList l vs.toArray) (hi : StrsAre vs ys)
    (hb : ys.length < 2 ^ 62) (hk : k ∈ ys) (h : Q (.int (ys.idxOf k : Nat) s.toks) { s with toks := s.toks + 1 }) :
    wpAny (model prog w) A (call (.builtin "list.index") [.ref l, .str k t]) Q E s := by
  obtain ⟨⟨cls, dd, data, sl⟩, ho, hc, n, hd⟩ := id hl
  simp only at hc hd
  subst hc hd
  have hlen := strs_len hi
  have hj : ys.idxOf k < ys.length := List.idxOf_lt_length_iff.mpr hk
  refine call_meets PySem.F.slot_list_index ⟨_, ho, rfl⟩ PySem.F.entry_list_index (PySem.F.args_list_index_2 _ _)
    (list_indexAt l vs.toArray n dd sl (.str k t) (isStrOf k) (ys.idxOf k) (by simpa [hlen] using hj) (by omega) ?_ ?_) ⟨ho, fun y hy => (eq_isStrOf k t hi y (by simpa using hy)).at _ _, h⟩
  · show isStrOf k vs[ys.idxOf k] = true
    obtain ⟨t', e⟩ := strs_at hi _ (by omega) hj
    rw [e]
    show (ys[ys.idxOf k] == k) = true
    simpa using List.getElem_idxOf hj
  · intro j hjs hlt
    show isStrOf k vs[j] = false
    obtain ⟨t', e⟩ := strs_at hi j (by simpa using hjs) (by omega)
    rw [e]
    show (ys[j] == k) = false
    have := List.not_of_lt_findIdx hlt
    simpa using this

theorem ord_any (k : Str) : (ordL.map St).any (· == k) = (ett k).isSome := by
  rw [← St_cs k, ett_St, Bool.eq_iff_iff, List.any_eq_true, ettL_mem]
  have key : ∀ o, o ∈ ordL ↔ o ∈ tabN.map (·.1) := by
    have h1 : ∀ o ∈ ordL, o ∈ tabN.map (·.1) := by decide +kernel
    have h2 : ∀ o ∈ tabN.map (·.1), o ∈ ordL := by decide +kernel
    exact fun o => ⟨h1 o, h2 o⟩
  rw [← key]
  constructor
  · rintro ⟨x, hx, e⟩
    obtain ⟨o, ho, rfl⟩ := List.mem_map.mp hx
    have : o = cs k := by have := congrArg cs (beq_iff_eq.mp e); simpa [cs_St] using this
    rw [← this]; exact ho
  · intro h
    exact ⟨St (cs k), List.mem_map.mpr ⟨_, h, rfl⟩, by simp⟩
theorem ord_idx {k : Str} (h : (ett k).isSome = true) : k ∈ ordL.map St ∧ (7 + ((ordL.map St).idxOf k : Nat) : Int) = symL (cs k) := by
  have h' := h
  rw [← ord_any, List.any_eq_true] at h
  obtain ⟨x, hx, e⟩ := h
  have e := beq_iff_eq.mp e
  subst e
  refine ⟨hx, ?_⟩
  obtain ⟨o, ho, rfl⟩ := List.mem_map.mp hx
  have key : ∀ o ∈ ordL, (7 + ((ordL.map St).idxOf (St o) : Nat) : Int) = symL o := by decide +kernel
  exact key o ho
theorem in_ord {ol : Addr} {ovs : List Value} {on : Nat} {news' : List (Addr × Obj)} {k : Str} {t : Tok} {Q : Value → Shared → Prop} (N : News h₀ L s.heap news') (hm : (ol, listOf ovs.toArray on) ∈ news') (hS : StrsAre ovs (ordL.map St))
    (h : Q (.bool (ett k).isSome) s) : wpAny (model prog w) A (compareOp .In (.str k t) (.ref ol)) Q E s :=
  in_list_strs (N.isList hm) hS (by rw [ord_any]; exact h)
theorem notin_ord {ol : Addr} {ovs : List Value} {on : Nat} {news' : List (Addr × Obj)} {k : Str} {t : Tok} {Q : Value → Shared → Prop} (N : News h₀ L s.heap news') (hm : (ol, listOf ovs.toArray on) ∈ news') (hS : StrsAre ovs (ordL.map St))
    (h : Q (.bool (!(ett k).isSome)) s) : wpAny (model prog w) A (compareOp .NotIn (.str k t) (.ref ol)) Q E s :=
  notin_list_strs (N.isList hm) hS (by rw [ord_any]; exact h)
theorem index_ord {ol : Addr} {ovs : List Value} {on : Nat} {news' : List (Addr × Obj)} {k : Str} {t : Tok} {Q : Value → Shared → Prop} (N : News h₀ L s.heap news') (hm : (ol, listOf ovs.toArray on) ∈ news') (hS : StrsAre ovs (ordL.map St))
    (hk : (ett k).isSome = true) (h : Q (.int (symL (cs k) - 7) s.toks) { s with toks := s.toks + 1 }) : wpAny (model prog w) A (call (.builtin "list.index") [.ref ol, .str k t]) Q E s := by
  obtain ⟨h1, h2⟩ := ord_idx hk
  refine index_list_strs (N.isList hm) hS (by simp [ordL]) h1 ?_
  have e : (((ordL.map St).idxOf k : Nat) : Int) = symL (cs k) - 7 := by omega
  rw [e]; exact h
theorem getMethod_index {ol : Addr} {ovs : List Value} {on : Nat} {news' : List (Addr × Obj)} {pl : Sem Bool} {Q : Value × List Value → Shared → Prop} (N : News h₀ L s.heap news') (hm : (ol, listOf ovs.toArray on) ∈ news')
    (h : Q (.builtin "list.index", [.ref ol]) s) : wpAny (model prog w) A (getMethod (.ref ol) "index" pl) Q E s :=
  getMethod_list_of PySem.F.slot_list_index PySem.F.type_list_index (N.isList hm) ⟨_, (N _ hm).1, rfl⟩ h
end
def HoldIf : Prop := True
def HoldWhile : Prop := True
def HoldFor : Prop := True
theorem cs_sym_none {k : Str} (h : (ett k).isSome = false) : 256 + ((k.cps.getD 0 0 : Nat) : Int) = symL (cs k) := by
  have := sym_none (l := cs k) (by rw [St_cs]; exact h)
  rw [St_cs] at this; exact this
theorem Hold.bind {P R : Prop} (h : Hold P) (f : P → R) : R := f h
/-! the law's tests on a text at a place -/
theorem beq_St (l l' : List Nat) : (St l == St l') = (l == l') := by rw [beq_toList]; rfl
theorem St_beq_str {l : List Nat} {x : Str} : (St l == x) = (l == cs x) := by rw [beq_toList]; rfl
theorem headD_drop {x : Str} {k : Nat} (h : k < x.length) : ∃ c r, (cs x).drop k = c :: r ∧ Txt.item x (k : Int) = St [c] := by
  have hx := len_cs x
  rw [item_k h]
  refine ⟨_, _, List.drop_eq_getElem_cons (by omega), ?_⟩
  rw [List.drop_eq_getElem_cons (by omega)]
  rfl
def sizeB (b3 b2 bd bq be e1 e2 : Bool) : Nat := if b3 then 3 else if b2 then 2 else if bd && bq then (if be && e2 then 3 else 2) else (if be && e1 then 2 else 1)
theorem sizeP_B (l : List Nat) : sizeP l = sizeB (l.take 3 == [46, 46, 46]) (l.take 2 == [45, 62]) (dbl.contains (l.headD 0)) ((l.drop 1).take 1 == [l.headD 0]) (eqs.contains (l.headD 0)) ((l.drop 1).take 1 == [61]) ((l.drop 2).take 1 == [61]) := by
  unfold sizeP sizeB
  simp only [beq_iff_eq, Bool.and_eq_true]
  by_cases h3 : l.take 3 = [46, 46, 46]
  · rw [if_pos h3, if_pos h3]
  rw [if_neg h3, if_neg h3]
  by_cases h2 : l.take 2 = [45, 62]
  · rw [if_pos h2, if_pos h2]
  rw [if_neg h2, if_neg h2]
  by_cases hd : dbl.contains (l.headD 0) = true ∧ (l.drop 1).take 1 = [l.headD 0]
  · simp only [hd.1, hd.2, and_true, true_and, if_true]
  · rw [if_neg hd, if_neg hd]
theorem occ_one (p : Str) (c : Nat) : (!(Builtin.Str.occurrences p (St [c]) 0 p.length 1).isEmpty) = (cs p).contains c := by
  have := StrLaws.found_one p c
  rw [show St [c] = ⟨#[c]⟩ from rfl, this, Bool.eq_iff_iff]
  simp
theorem slice_j1 (x : Str) (k j : Nat) (i e : Int) (hi : i = ((k + j : Nat) : Int)) (he : e = i + 1) : Txt.slice x (some i) (some e) = St ((((cs x).drop k).drop j).take 1) := by
  subst he; subst hi
  have := slice_k x (k + j) 1
  rw [List.drop_drop]
  exact this
theorem sizeP_raw {x : Str} {k : Nat} (hk : k < x.length) : sizeP ((cs x).drop k) = sizeB (Txt.slice x (some (k : Int)) (some ((k : Int) + 3)) == Str.ofString "...") (Txt.slice x (some (k : Int)) (some ((k : Int) + 2)) == Str.ofString "->")
    (!(Builtin.Str.occurrences (Str.ofString "*<>") (Txt.item x (k : Int)) 0 (Str.ofString "*<>").length 1).isEmpty) (Txt.slice x (some ((k : Int) + 1)) (some ((k : Int) + 2)) == Txt.item x (k : Int))
    (!(Builtin.Str.occurrences (Str.ofString "!%&*+-:<=>@^|") (Txt.item x (k : Int)) 0 (Str.ofString "!%&*+-:<=>@^|").length 1).isEmpty) (Txt.slice x (some ((k : Int) + 1)) (some ((k : Int) + 1 + 1)) == Str.ofString "=")
    (Txt.slice x (some ((k : Int) + 2)) (some ((k : Int) + 2 + 1)) == Str.ofString "=") := by
  obtain ⟨c, r, hl, hc⟩ := headD_drop hk
  rw [sizeP_B, slice_k3, slice_k2, hc, occ_one, occ_one, slice_j1 x k 1 _ _ (by omega) (by omega), slice_j1 x k 1 _ _ (by omega) rfl, slice_j1 x k 2 _ _ (by omega) rfl,
    St_beq_str, St_beq_str, St_beq_str, St_beq_str, St_beq_str, cs_St, show cs (Str.ofString "...") = [46, 46, 46] by decide +kernel, show cs (Str.ofString "->") = [45, 62] by decide +kernel, show cs (Str.ofString "*<>") = dbl by decide +kernel,
    show cs (Str.ofString "!%&*+-:<=>@^|") = eqs by decide +kernel, show cs (Str.ofString "=") = [61] by decide +kernel, hl]
  rfl

set_option maxHeartbeats 2000000 in
theorem one_len {x : Str} {k : Nat} (hk : k < x.length) (h : (ett (Txt.slice x (some (k : Int)) (some ((k : Int) + (sizeP ((cs x).drop k) : Nat))))).isSome = false) : (Txt.slice x (some (k : Int)) (some ((k : Int) + (sizeP ((cs x).drop k) : Nat)))).length = 1 := by
  rw [slice_k] at *
  rw [ett_St] at h
  have h1 := size_key (drop_ne hk)
  rw [len_St, List.length_take, h1.2 h]
  have := h1.1
  have := h1.2 h
  omega
theorem one_sym {x : Str} {k : Nat} : cs (Txt.slice x (some (k : Int)) (some ((k : Int) + (sizeP ((cs x).drop k) : Nat)))) = ((cs x).drop k).take (sizeP ((cs x).drop k)) := by
  rw [slice_k]; rfl

end Mine
end
section -- Pc
example : True := by
  w_top off
  k_with_none
  trivial
open PySem PySem.W PyProof.Rows PySem.Calls
namespace Mine
local macro_rules | `(tactic| walk_at $s:str) => `(tactic| k_extra $s)
example : Mine.rwS = Mine.rwS ∧ hd.heap_39 = hd.heap_39 := by k_fill; exact ⟨rfl, rfl⟩

theorem seven (a : Int) : 7 + (a - 7) = a := by omega
theorem len_one_of {y : Str} (h : (ett y).isSome = false) (h1 : (ett y).isSome = false → y.length = 1) : y.length = 1 := h1 h
example : True := by
  k_with "compareOp In str ref" => ((k_here; (try dsimp only); refine in_ord (by k_asm) (by kst_mem) (by with_reducible assumption) ?_))
  trivial
example : True := by
  k_with "call builtin:list.index" => ((k_here; (try dsimp only); refine index_ord (by k_asm) (by kst_mem) (by with_reducible assumption) (by with_reducible assumption) ?_))
  trivial
example : True := by
  k_with "getMethod ref" => ((k_here; (try dsimp only); refine getMethod_index (by k_asm) (by kst_mem) ?_))
  trivial
example : True := by
  k_with "call builtin:ord" => ((k_here; refine ord_of_one (len_one_of (by with_reducible assumption) (by with_reducible assumption)) ?_))
  trivial
example : True := by
  k_with "exec If" => (((with_reducible rename HoldIf => hq); refine Hold.mk ?_))
  trivial
example : True := by
  k_with "exec If Compare" => (((with_reducible rename HoldIf => hq); refine Hold.mk ?_))
  trivial
example : True := by
  k_with "ps_all" => (repeat (first | exact List.forall_mem_nil _ | (refine List.forall_mem_cons.mpr ⟨by rfl, ?_⟩)))
  trivial

set_option maxHeartbeats 4000000 in
theorem piece_spec {w : World} {mean : ExcName → Option Value} {mg mb : Str → Option Value} {A₀ : Around} {base h₀ : Heap} {outer : List Env} {L : Addr} {m : Str → Option Value} {s : Shared} {news : List (Addr × Obj)} {Q E : Value → Shared → Prop}
    {gd : Option (List Code)} {cn : Str} {cs' : Scope} {a : Addr} {ccd : Value} {cl : List (Str × Addr)} {p : Program} {loose : List Str}
    (B : Below A₀ base outer h₀) (F : Fr h₀ L s.heap m) (KX : (hd.heap_39 w.params).In h₀) (N : News h₀ L s.heap news) (T : Top p loose mean mg mb h₀) (hk : cs'.kind = .function) (x : Str) (t : Tok) (ol : Addr) (ovs : List Value) (on : Nat) (hx : x.length ≤ 40) (hm : (ol, listOf ovs.toArray on) ∈ news) (hS : StrsAre ovs (ordL.map St))
    (ret : ∀ r (vs : List Value) n tk h', Fr h₀ L h' m → News h₀ L h' ((r, listOf vs.toArray n) :: news) → IntsAre vs (rowP (cs x)) → vs.length ≤ 40 → Q (.ref r) { s with heap := h', toks := tk }) :
    wpAny (model Mine.rwS.row.prog w) (ktrTop 420 120 gd cn cs' L a ccd cl outer) (call (.ref 141) [.str x t, .ref ol]) Q E s := by
  k_with "exec While Compare cons nil" => refine Hold.mk ?_
  refine wpAny_call ?_
  k_dflt cell_enter
  k_steps
  refine Hold.out ?_
  rename_i g L1 h1 FG B1 X1 T1 tk0 lr h2 hlr h3 h4 F1 N1
  have F2 := fr_canon F1 [("piece", .str x t), ("order", .ref ol), ("row", .ref lr), ("at", .int 0 tk)] (by walk_at "ps_all")
  clear F1
  obtain ⟨I, hW⟩ : ∃ I : Nat → Shared → Prop, ∀ n s', I n s' ↔ (∃ (k : Nat) (vs : List Value) (nn : Nat) (u : Str → Option Value) (tk ta : Nat) (h' : Heap), n = x.length - k ∧ k ≤ x.length ∧
      Fr g L1 h' (kstB u [("piece", .str x t), ("order", .ref ol), ("row", .ref lr), ("at", .int (k : Int) ta)]) ∧ News g L1 h' ((lr, listOf vs.toArray nn) :: news) ∧ (∃ done, IntsAre vs done ∧ rowP (cs x) = done ++ rowP ((cs x).drop k)) ∧ vs.length ≤ k ∧
      s' = { s with heap := h', toks := tk }) := ⟨_, fun _ _ => Iff.rfl⟩
  refine my_while I x.length ?init ?turn
  case init => exact (hW _ _).mpr ⟨0, [], 0, _, _, _, _, by simp, Nat.zero_le _, F2, N1, ⟨[], .nil, rfl⟩, Nat.le_refl _, rfl⟩
  case turn =>
    intro n s' hs'
    obtain ⟨k, vs, nn, u, tk, ta, h', rfl, hkx, F1, N1, ⟨done, hI, hd⟩, hvs, rfl⟩ := (hW _ _).mp hs'
    clear hs'
    have hq : HoldIf := trivial
    k_steps
    · refine Hold.out ?_
      rename HoldIf => hq
      clear hq
      obtain ⟨J, hJ⟩ : ∃ J : Shared → Prop, ∀ s', J s' ↔ (∃ (u : Str → Option Value) (tk tz : Nat) (h' : Heap), Fr g L1 h' (kstB u [("piece", .str x t), ("order", .ref ol), ("row", .ref lr), ("at", .int (k : Int) ta), ("size", .int (sizeP ((cs x).drop k) : Nat) tz)]) ∧
         News g L1 h' ((lr, listOf vs.toArray nn) :: news) ∧ s' = { s with heap := h', toks := tk }) := ⟨_, fun _ => Iff.rfl⟩
      refine split_stmt J ?_ ?_
      · have hraw := sizeP_raw (x := x) (k := k) (by omega)
        k_steps
        all_goals
          rename Fr _ _ _ _ => F9
          rename News _ _ _ _ => N9
          try rw [(by with_reducible assumption : (Txt.slice x (some (k : Int)) (some ((k : Int) + 3)) == Str.ofString "...") = true)] at hraw
          try rw [(by with_reducible assumption : (Txt.slice x (some (k : Int)) (some ((k : Int) + 3)) == Str.ofString "...") = false)] at hraw
          try rw [(by with_reducible assumption : (Txt.slice x (some (k : Int)) (some ((k : Int) + 2)) == Str.ofString "->") = true)] at hraw
          try rw [(by with_reducible assumption : (Txt.slice x (some (k : Int)) (some ((k : Int) + 2)) == Str.ofString "->") = false)] at hraw
          try rw [(by with_reducible assumption : (Builtin.Str.occurrences (Str.ofString "*<>") (Txt.item x (k : Int)) 0 (Str.ofString "*<>").length 1).isEmpty = true)] at hraw
          try rw [(by with_reducible assumption : (Builtin.Str.occurrences (Str.ofString "*<>") (Txt.item x (k : Int)) 0 (Str.ofString "*<>").length 1).isEmpty = false)] at hraw
          try rw [(by with_reducible assumption : (Txt.slice x (some ((k : Int) + 1)) (some ((k : Int) + 2)) == Txt.item x (k : Int)) = true)] at hraw
          try rw [(by with_reducible assumption : (Txt.slice x (some ((k : Int) + 1)) (some ((k : Int) + 2)) == Txt.item x (k : Int)) = false)] at hraw
          try rw [(by with_reducible assumption : (Builtin.Str.occurrences (Str.ofString "!%&*+-:<=>@^|") (Txt.item x (k : Int)) 0 (Str.ofString "!%&*+-:<=>@^|").length 1).isEmpty = true)] at hraw
          try rw [(by with_reducible assumption : (Builtin.Str.occurrences (Str.ofString "!%&*+-:<=>@^|") (Txt.item x (k : Int)) 0 (Str.ofString "!%&*+-:<=>@^|").length 1).isEmpty = false)] at hraw
          try rw [(by with_reducible assumption : (Txt.slice x (some ((k : Int) + 1)) (some ((k : Int) + 1 + 1)) == Str.ofString "=") = true)] at hraw
          try rw [(by with_reducible assumption : (Txt.slice x (some ((k : Int) + 1)) (some ((k : Int) + 1 + 1)) == Str.ofString "=") = false)] at hraw
          try rw [(by with_reducible assumption : (Txt.slice x (some ((k : Int) + 2)) (some ((k : Int) + 2 + 1)) == Str.ofString "=") = true)] at hraw
          try rw [(by with_reducible assumption : (Txt.slice x (some ((k : Int) + 2)) (some ((k : Int) + 2 + 1)) == Str.ofString "=") = false)] at hraw
          refine Hold.out ⟨rfl, (hJ _).mpr ?_⟩
          rw [hraw]
          refine ⟨_, _, _, _, fr_canon F9 [("piece", .str x t), ("order", .ref ol), ("row", .ref lr), ("at", .int (k : Int) ta), ("size", _)] (by walk_at "ps_all"), news_sub N9 (by kst_allIn), rfl⟩
      · intro s' hs'
        obtain ⟨u, tk, tz, h', F1, N1, rfl⟩ := (hJ _).mp hs'
        clear hs'
        have hkl : k < x.length := by omega
        have hne := drop_ne hkl
        have hp1 := sizeP_pos ((cs x).drop k)
        have hpl := (size_key hne).1
        rw [List.length_drop, ← len_cs] at hpl
        have hone := one_len hkl
        have hstep := rowP_step hne
        rw [List.drop_drop] at hstep
        have hsy : ∀ (t : Tok), Value.int (7 + (symL (cs (Txt.slice x (some (k : Int)) (some ((k : Int) + (sizeP ((cs x).drop k) : Nat))))) - 7)) t = Value.int (symL (((cs x).drop k).take (sizeP ((cs x).drop k)))) t := fun t => by rw [one_sym]; exact congrArg (Value.int · t) (seven _)
        have hsn : (ett (Txt.slice x (some (k : Int)) (some ((k : Int) + (sizeP ((cs x).drop k) : Nat))))).isSome = false → ∀ (t : Tok), Value.int (256 + (((Txt.slice x (some (k : Int)) (some ((k : Int) + (sizeP ((cs x).drop k) : Nat)))).cps.getD 0 0 : Nat) : Int)) t = Value.int (symL (((cs x).drop k).take (sizeP ((cs x).drop k)))) t := fun h t => by rw [cs_sym_none h, one_sym]
        k_steps
        all_goals
          rename Fr _ _ _ _ => F9
          rename News _ _ _ _ => N9
          rw [List.push_toArray] at N9
          first | rw [hsy] at N9 | rw [hsn (by with_reducible assumption)] at N9
          refine TurnEnd.next (x.length - (k + sizeP ((cs x).drop k))) (turn_lt hkl hp1 hpl).1 ((hW _ _).mpr ⟨k + sizeP ((cs x).drop k), _, _, _, _, _, _, rfl, (turn_lt hkl hp1 hpl).2,
            fr_canon F9 [("piece", .str x t), ("order", .ref ol), ("row", .ref lr), ("at", .int ((k + sizeP ((cs x).drop k) : Nat) : Int) _)] (by walk_at "ps_all"), N9, ⟨_, ints_snoc hI _ _, ?_⟩, snoc_len hvs hp1, rfl⟩)
          rw [hd, hstep, List.append_assoc]
          rfl
    · refine ret lr vs nn _ _ ?_ ?_ ?_ (by omega)
      · assumption
      · assumption
      · have e : k = x.length := by omega
        rw [e, List.drop_of_length_le (by rw [← len_cs]; omega), rowP_nil, List.append_nil] at hd
        rw [hd]
        exact hI
end Mine
end
section -- W3
example : True := by
  w_top off
  k_with_none
  trivial
open PySem PySem.W PyProof.Rows PySem.Calls
namespace Mine
local macro_rules | `(tactic| walk_at $s:str) => `(tactic| k_extra $s)
example : Mine.rwS = Mine.rwS ∧ hd.heap_39 = hd.heap_39 := by k_fill; exact ⟨rfl, rfl⟩

open PyProof PySem.SeqAt
/-! runs -/
theorem runN_le (l : List Nat) : runN l ≤ l.length := by
  have := congrArg List.length (run_app l)
  rw [List.length_append, List.length_replicate] at this
  rw [← this]
  exact Nat.le_add_right _ _
theorem pieceW_le (l : List Nat) : (pieceW l).length ≤ l.length := by
  have := congrArg List.length (pieceW_app l)
  rw [List.length_append] at this
  rw [← this]
  exact Nat.le_add_right _ _
theorem runN_more : ∀ (l : List Nat) (j : Nat), j ≤ runN l → l[j]? = some 47 → j + 1 ≤ runN l
  | [], j, _, h => by simp at h
  | c :: r, j, hj, h => by
    unfold runN at *
    by_cases hc : c = 47
    · subst hc
      simp only [List.takeWhile_cons, beq_self_eq_true, if_true, List.length_cons] at *
      cases j with
      | zero => exact Nat.succ_le_succ (Nat.zero_le _)
      | succ j => exact Nat.succ_le_succ (runN_more r j (Nat.le_of_succ_le_succ hj) (by simpa using h))
    · have e : (c == 47) = false := by simpa using hc
      simp only [List.takeWhile_cons, e, Bool.false_eq_true, if_false, List.length_nil] at *
      have : j = 0 := Nat.le_zero.mp hj
      subst this
      simp at h
      exact absurd h hc
theorem runN_stop {l : List Nat} {j : Nat} (hj : j ≤ runN l) (h : l[j]? ≠ some 47) : j = runN l := by
  by_cases q : j < runN l
  · exfalso
    apply h
    have e := run_app l
    have : l[j]? = (List.replicate (runN l) 47 ++ l.drop (runN l))[j]? := by rw [e]
    rw [this, List.getElem?_append_left (by simpa using q)]
    simp [q]
  · exact Nat.le_antisymm hj (Nat.le_of_not_lt q)
theorem pieceW_more : ∀ (l : List Nat) (j c : Nat), j ≤ (pieceW l).length → l[j]? = some c → c ≠ 47 → j + 1 ≤ (pieceW l).length
  | [], j, _, _, h, _ => by simp at h
  | d :: r, j, c, hj, h, hc => by
    unfold pieceW at *
    by_cases hd : d = 47
    · subst hd
      simp only [List.takeWhile_cons, bne_self_eq_false, Bool.false_eq_true, if_false, List.length_nil] at *
      have : j = 0 := Nat.le_zero.mp hj
      subst this
      simp at h
      exact absurd h.symm hc
    · have e : (d != 47) = true := by simpa using hd
      simp only [List.takeWhile_cons, e, if_true, List.length_cons] at *
      cases j with
      | zero => exact Nat.succ_le_succ (Nat.zero_le _)
      | succ j => exact Nat.succ_le_succ (pieceW_more r j c (Nat.le_of_succ_le_succ hj) (by simpa using h) hc)
theorem pieceW_stop {l : List Nat} {j : Nat} (hj : j ≤ (pieceW l).length) (h : l[j]? = none ∨ l[j]? = some 47) : j = (pieceW l).length := by
  by_cases q : j < (pieceW l).length
  · exfalso
    have e := pieceW_app l
    have e2 : l[j]? = (pieceW l)[j]? := by
      have : l[j]? = (pieceW l ++ l.drop (pieceW l).length)[j]? := by rw [e]
      rw [this, List.getElem?_append_left q]
    rw [e2, List.getElem?_eq_getElem q] at h
    rcases h with h | h
    · cases h
    · have := Option.some.inj h
      exact pieceW_no l (this ▸ List.getElem_mem q)
  · exact Nat.le_antisymm hj (Nat.le_of_not_lt q)
theorem cutL_len (l : List Nat) : (cutL l).length ≤ l.length := by
  unfold cutL
  rw [List.length_map]
  induction l using toks.induct with
  | case1 => rw [toks_nil]; simp
  | case2 c r ih =>
    rw [toks_step (by simp)]
    have := pieceL_pos (l := c :: r) (by simp)
    rw [List.length_drop] at ih
    simp only [List.length_cons] at *
    omega
theorem item_beq {x : Str} {k : Nat} (h : k < x.length) (c : Nat) (p : Str) (hp : cs p = [c]) : (Txt.item x (k : Int) == p) = ((cs x)[k]? == some c) := by
  have hx := len_cs x
  rw [item_k h, St_beq_str, hp, List.drop_eq_getElem_cons (hx ▸ h), List.getElem?_eq_getElem (hx ▸ h), Bool.eq_iff_iff]
  simp
theorem min_zero_nat (n : Nat) : max (0 : Int) (min 0 (n : Int)) = 0 := by rw [Int.min_eq_left (Int.natCast_nonneg n), Int.max_self]
theorem min_self_nat (n : Nat) : max (0 : Int) (min (n : Int) (n : Int)) = n := by rw [Int.min_self, Int.max_eq_right (Int.natCast_nonneg n)]
theorem slice_none0 (x : Str) (u : Option Int) : Txt.slice x none u = Txt.slice x (some 0) u := by
  have e : Builtin.Str.strSliceIndices none u 1 x.length = Builtin.Str.strSliceIndices (some 0) u 1 x.length := by
    simp [Builtin.Str.strSliceIndices]
    try rw [min_zero_nat]
    try rw [if_neg (nonneg_nat _), min_self_nat]
  unfold Txt.slice
  rw [e]
theorem slice_noneN (x : Str) (l : Option Int) : Txt.slice x l none = Txt.slice x l (some (x.length : Int)) := by
  have e : Builtin.Str.strSliceIndices l none 1 x.length = Builtin.Str.strSliceIndices l (some (x.length : Int)) 1 x.length := by
    simp [Builtin.Str.strSliceIndices]
    try rw [min_zero_nat]
    try rw [if_neg (nonneg_nat _), min_self_nat]
  unfold Txt.slice
  rw [e]
theorem slice_to (x : Str) (j : Nat) : Txt.slice x none (some (j : Int)) = St ((cs x).take j) := by
  rw [slice_none0]
  have := slice_ij x 0 j
  rw [List.drop_zero] at this
  exact this
theorem slice_from (x : Str) (j : Nat) : Txt.slice x (some (j : Int)) none = St ((cs x).drop j) := by
  rw [slice_noneN, slice_ij, List.take_of_length_le (by rw [← len_cs]; exact Nat.le_refl _)]

theorem get_drop (x : Str) {k r : Nat} (h : k ≤ r) : ((cs x).drop k)[r - k]? = (cs x)[r]? := by
  rw [List.getElem?_drop, Nat.add_sub_cancel' h]
theorem past_end {x : Str} {r : Nat} (h : ¬ (r : Int) < (x.length : Int)) : (cs x)[r]? = none := List.getElem?_eq_none (by rw [← len_cs]; exact Int.ofNat_le.mp (Int.not_lt.mp h))
theorem run_up {x : Str} {k r rn : Nat} (hrn : rn = runN ((cs x).drop k)) (hk : k ≤ r) (hr : r ≤ k + rn) (h1 : (r : Int) < (x.length : Int)) (h : (Txt.item x (r : Int) == Str.ofString "/") = true) : r + 1 ≤ k + rn := by
  rw [item_beq (Int.ofNat_lt.mp h1) 47 _ (by decide +kernel)] at h
  obtain ⟨j, rfl⟩ := Nat.exists_eq_add_of_le hk
  subst hrn
  exact Nat.add_le_add_left (runN_more ((cs x).drop k) j (Nat.le_of_add_le_add_left hr) (by rw [List.getElem?_drop]; simpa using h)) k
theorem run_end1 {x : Str} {k r rn : Nat} (hrn : rn = runN ((cs x).drop k)) (hk : k ≤ r) (hr : r ≤ k + rn) (h1 : ¬ (r : Int) < (x.length : Int)) : r = k + rn := by
  obtain ⟨j, rfl⟩ := Nat.exists_eq_add_of_le hk
  subst hrn
  rw [← runN_stop (l := (cs x).drop k) (j := j) (Nat.le_of_add_le_add_left hr) (by rw [List.getElem?_drop, past_end h1]; simp)]
theorem run_end2 {x : Str} {k r rn : Nat} (hrn : rn = runN ((cs x).drop k)) (hk : k ≤ r) (hr : r ≤ k + rn) (h1 : (r : Int) < (x.length : Int)) (h : (Txt.item x (r : Int) == Str.ofString "/") = false) : r = k + rn := by
  rw [item_beq (Int.ofNat_lt.mp h1) 47 _ (by decide +kernel)] at h
  obtain ⟨j, rfl⟩ := Nat.exists_eq_add_of_le hk
  subst hrn
  rw [← runN_stop (l := (cs x).drop k) (j := j) (Nat.le_of_add_le_add_left hr) (by rw [List.getElem?_drop]; simpa using h)]
theorem pc_up {x : Str} {k r pn : Nat} (hpn : pn = (pieceW ((cs x).drop k)).length) (hk : k ≤ r) (hr : r ≤ k + pn) (h1 : (r : Int) < (x.length : Int)) (h : (Txt.item x (r : Int) == Str.ofString "/") = false) : r + 1 ≤ k + pn := by
  have hrx := Int.ofNat_lt.mp h1
  rw [item_beq hrx 47 _ (by decide +kernel)] at h
  have hx := len_cs x
  obtain ⟨j, rfl⟩ := Nat.exists_eq_add_of_le hk
  have e := List.getElem?_eq_getElem (l := cs x) (i := k + j) (hx ▸ hrx)
  subst hpn
  exact Nat.add_le_add_left (pieceW_more ((cs x).drop k) j _ (Nat.le_of_add_le_add_left hr) (by rw [List.getElem?_drop, e]) (by rw [e] at h; simpa using h)) k
theorem pc_end1 {x : Str} {k r pn : Nat} (hpn : pn = (pieceW ((cs x).drop k)).length) (hk : k ≤ r) (hr : r ≤ k + pn) (h1 : ¬ (r : Int) < (x.length : Int)) : r = k + pn := by
  obtain ⟨j, rfl⟩ := Nat.exists_eq_add_of_le hk
  subst hpn
  rw [← pieceW_stop (l := (cs x).drop k) (j := j) (Nat.le_of_add_le_add_left hr) (.inl (by rw [List.getElem?_drop, past_end h1]))]
theorem pc_end2 {x : Str} {k r pn : Nat} (hpn : pn = (pieceW ((cs x).drop k)).length) (hk : k ≤ r) (hr : r ≤ k + pn) (h1 : (r : Int) < (x.length : Int)) (h : (Txt.item x (r : Int) == Str.ofString "/") = true) : r = k + pn := by
  rw [item_beq (Int.ofNat_lt.mp h1) 47 _ (by decide +kernel)] at h
  obtain ⟨j, rfl⟩ := Nat.exists_eq_add_of_le hk
  subst hpn
  rw [← pieceW_stop (l := (cs x).drop k) (j := j) (Nat.le_of_add_le_add_left hr) (.inr (by rw [List.getElem?_drop]; simpa using h))]
theorem head_plain {rn : Nat} {p : List Nat} {y : Str} (hpc : y = St p) (h : decide (List.replicate (rn / 2) (47 : Int) ++ List.replicate (rn % 2) 17 = []) = true ∨ (Txt.slice y none (some 1) == Str.ofString "=") = false) :
    toldHead rn p = (List.replicate (rn / 2) (47 : Int) ++ List.replicate (rn % 2) 17) ++ rowP (cs y) := by
  subst hpc
  unfold toldHead
  rw [if_neg]
  · rfl
  · rintro ⟨h1, h2⟩
    rcases h with h | h
    · exact h1 (of_decide_eq_true h)
    · have := slice_to (St p) 1
      rw [show ((1 : Nat) : Int) = 1 from rfl] at this
      rw [this, St_beq_str, show cs (Str.ofString "=") = [61] by decide +kernel] at h
      have h2' : (cs (St p)).take 1 = [61] := h2
      rw [h2'] at h
      simp at h
theorem head_join {rn : Nat} {p : List Nat} {y : Str} {v : Int} (hpc : y = St p) (h1 : decide (List.replicate (rn / 2) (47 : Int) ++ List.replicate (rn % 2) 17 = []) = false) (h2 : (Txt.slice y none (some 1) == Str.ofString "=") = true)
    (hv : ((List.replicate (rn / 2) (47 : Int) ++ List.replicate (rn % 2) 17).getLast?.getD 0 = 47 ∧ v = 48) ∨ ((List.replicate (rn / 2) (47 : Int) ++ List.replicate (rn % 2) 17).getLast?.getD 0 ≠ 47 ∧ v = 39)) :
    toldHead rn p = ((List.replicate (rn / 2) (47 : Int) ++ List.replicate (rn % 2) 17).dropLast ++ [v]) ++ rowP (cs (Txt.slice y (some 1) none)) := by
  subst hpc
  have h1' : slashRow rn ≠ [] := of_decide_eq_false h1
  have := slice_to (St p) 1
  rw [show ((1 : Nat) : Int) = 1 from rfl] at this
  rw [this, St_beq_str, show cs (Str.ofString "=") = [61] by decide +kernel] at h2
  have h2'' : (cs (St p)).take 1 = [61] := by simpa using h2
  have h2' : p.take 1 = [61] := h2''
  have this2 := slice_from (St p) 1
  rw [show ((1 : Nat) : Int) = 1 from rfl] at this2
  unfold toldHead
  rw [if_pos ⟨h1', h2'⟩, this2]
  unfold joinRow
  have hv' : (if (slashRow rn).getLast? = some 47 then (48 : Int) else 39) = v := by
    change ((slashRow rn).getLast?.getD 0 = 47 ∧ v = 48) ∨ ((slashRow rn).getLast?.getD 0 ≠ 47 ∧ v = 39) at hv
    cases e : (slashRow rn).getLast? with
    | none => exact absurd (List.getLast?_eq_none_iff.mp e) h1'
    | some u =>
      rw [e] at hv
      simp only [Option.getD_some] at hv
      rcases hv with ⟨rfl, rfl⟩ | ⟨q, rfl⟩
      · simp
      · simp [q]
  rw [hv']
  rfl

end Mine
end
section -- Td
example : True := by
  w_top off
  k_with_none
  trivial
open PySem PySem.W PyProof.Rows PySem.Calls
namespace Mine
local macro_rules | `(tactic| walk_at $s:str) => `(tactic| k_extra $s)
example : Mine.rwS = Mine.rwS ∧ hd.heap_39 = hd.heap_39 := by k_fill; exact ⟨rfl, rfl⟩

theorem wp_up {α : Type} {M : Model} {A A' : Around} {t : Sem α} {Q : α → Shared → Prop} {E : Value → Shared → Prop} {s : Shared} (hh : A.handled = A'.handled) (hd : A.depth ≤ A'.depth) (hf : A.frames = A'.frames) (hg : A.guards = A'.guards) (hu : A.units ≤ A'.units)
    (h : wpAny M A' t Q E s) : wpAny M A t Q E s := fun Γ p hΓ => h Γ p ⟨hΓ.1.trans hh, Nat.le_trans hΓ.2.1 hd, fun l hl => hΓ.2.2.1 l (hf.trans hl), fun g hl => hΓ.2.2.2.1 g (hg.trans hl), Nat.le_trans hΓ.2.2.2.2 hu⟩

theorem idx_div (k r : Nat) : (((k + r : Nat) : Int) - (k : Int)).fdiv 2 = ((r / 2 : Nat) : Int) := by
  rw [Int.fdiv_eq_ediv_of_nonneg _ (by omega)]; omega
theorem idx_mod (k r : Nat) : (((k + r : Nat) : Int) - (k : Int)).fmod 2 = ((r % 2 : Nat) : Int) := by
  rw [Int.fmod_eq_emod_of_nonneg _ (by omega)]; omega
theorem flat_rep (v : Value) (c : Nat) : List.foldl (fun x1 x2 => x1 ++ x2) #[] (List.replicate c #[v]) = (List.replicate c v).toArray := by
  have : ∀ (a : Array Value), List.foldl (fun x1 x2 => x1 ++ x2) a (List.replicate c #[v]) = a ++ (List.replicate c v).toArray := by
    induction c with
    | zero => intro a; simp
    | succ c ih =>
      intro a
      rw [List.replicate_succ, List.foldl_cons, ih, List.replicate_succ]
      apply Array.ext'
      simp only [Array.toList_append, List.append_assoc]
      rfl
  rw [this]
  apply Array.ext'
  simp only [Array.toList_append]
  rfl
theorem ints_rep (v : Int) (t : Tok) (c : Nat) : IntsAre (List.replicate c (.int v t)) (List.replicate c v) := by
  induction c with
  | zero => exact .nil
  | succ c ih => exact .cons v t ih
theorem mul_one {w : World} {prog : Program} {A : Around} {E : Value → Shared → Prop} {s : Shared} {h₀ : Heap} {L : Addr} {m : Str → Option Value} {news : List (Addr × Obj)} {l : Addr} {v : Int} {t u : Tok} {c n : Nat} {x : Int} {Q : Value → Shared → Prop}
    (F : Fr h₀ L s.heap m) (N : News h₀ L s.heap news) (hm : (l, listOf #[.int v t] n) ∈ news) (hx : x = (c : Int)) (hc : c ≤ 40)
    (h : ∀ r vs h', Fr h₀ L h' m → News h₀ L h' ((r, listOf vs.toArray 0) :: news) → IntsAre vs (List.replicate c v) → vs.length ≤ 40 → Q (.ref r) { s with heap := h' }) :
    wpAny (model prog w) A (binaryOp .Mult (.ref l) (.int x u)) Q E s := by
  subst hx
  refine mul_list F N (N _ hm).1 (by omega) (by omega) (by simp; omega) fun h' F' N' => ?_
  have e : (if (#[Value.int v t] : Array Value).isEmpty = true then 0 else ((c : Int)).toNat) = c := by simp
  rw [e, flat_rep] at N'
  exact h _ _ _ F' N' (ints_rep v t c) (by rw [List.length_replicate]; exact hc)
theorem ints_dropLast {vs : List Value} {ns : List Int} (h : IntsAre vs ns) : IntsAre vs.dropLast ns.dropLast := by
  rw [List.dropLast_eq_take, List.dropLast_eq_take, h.length]
  exact h.take _
theorem slice_butlast {w : World} {prog : Program} {A : Around} {E : Value → Shared → Prop} {s : Shared} {h₀ : Heap} {L : Addr} {m : Str → Option Value} {news : List (Addr × Obj)} {value slice : Expr} {l : Addr} {u : Tok} {n : Nat} {vs : List Value} {ns : List Int} {Q : Value → Shared → Prop}
    (F : Fr h₀ L s.heap m) (N : News h₀ L s.heap news) (hm : (l, listOf vs.toArray n) ∈ news) (hi : IntsAre vs ns) {z : Nat} (hz : vs.length ≤ z) (hz2 : Nat.ble z 1000 = true)
    (h : ∀ r vs' h', Fr h₀ L h' m → News h₀ L h' ((r, listOf vs'.toArray 0) :: news) → IntsAre vs' ns.dropLast → vs'.length ≤ z → Q (.ref r) { s with heap := h' })
    (hs : subscripted slice false (.ref l) (.ref s.heap.objs.size) = operate [.ref s.heap.objs.size, .ref l] (getItem (.ref l) (.ref s.heap.objs.size)) := by with_unfolding_all rfl)
    (ht : ∀ r, letTemporaryGo value (.ref l) r = pure () := by intro _; with_unfolding_all rfl) :
    wpAny (model prog w) A (subscriptTail value slice (.ref l) (.ref s.heap.objs.size)) Q E { s with heap := s.heap.push { cls := .type "slice", data := .fields #[.none, .int (-1) u, .none] } } := by
  refine slice_list F N (N.isList hm) .none (.int (-1) u) (fun h' F' N' => ?_) hs ht (by have := Nat.le_of_ble_eq_true hz2; rw [sizeLine_eq]; simp; omega)
  have e := slicePick_butLast vs.toArray 1 (Nat.le_refl _)
  rw [show (-((1 : Nat) : Int)) = -1 from rfl] at e
  rw [e] at N'
  have e2 : vs.toArray.toList.take (vs.toArray.size - 1) = vs.dropLast := by rw [List.dropLast_eq_take]; simp
  rw [e2] at N'
  exact h _ _ _ F' N' (ints_dropLast hi) (by rw [List.length_dropLast]; exact Nat.le_trans (Nat.sub_le _ _) hz)
theorem add_my {w : World} {prog : Program} {A : Around} {E : Value → Shared → Prop} {s : Shared} {h₀ : Heap} {L : Addr} {m : Str → Option Value} {news : List (Addr × Obj)} {l b : Addr} {n n2 : Nat} {vs ws : List Value} {ns ms : List Int} {Q : Value → Shared → Prop}
    (F : Fr h₀ L s.heap m) (N : News h₀ L s.heap news) (hm : (l, listOf vs.toArray n) ∈ news) (hm2 : (b, listOf ws.toArray n2) ∈ news) (hi : IntsAre vs ns) (hj : IntsAre ws ms) {z z' : Nat} (hz : vs.length ≤ z) (hz' : ws.length ≤ z') (hzz : Nat.ble (z + z') 1000 = true)
    (h : ∀ r us h', Fr h₀ L h' m → News h₀ L h' ((r, listOf us.toArray 0) :: news) → IntsAre us (ns ++ ms) → us.length ≤ z + z' → Q (.ref r) { s with heap := h' }) :
    wpAny (model prog w) A (binaryOp .Add (.ref l) (.ref b)) Q E s :=
  add_lists (hsz := by have := Nat.le_of_ble_eq_true hzz; rw [sizeLine_eq]; omega) F N (N.isList hm) (N.isList hm2) fun h' F' N' => h _ _ _ F' N' (hi.append hj) (by rw [List.length_append]; exact Nat.add_le_add hz hz')
example : True := by
  k_with "binaryOp Add ref ref" => ((k_here; (try dsimp only); first | k_dflt (refine add_my (by k_asm) (by k_asm) (by k_mem) (by k_mem) (by assumption) (by first | assumption | exact .cons _ _ .nil) (by with_reducible assumption) (by first | with_reducible assumption | exact Nat.le_refl 1) (by rfl) ?_; intro r6 vs6 h6 F6 N6 hI6 hl6; (try dsimp only)) | refine Hold.mk ?_))
  trivial
example : True := by
  k_with "subscriptTail Name Slice ref ref" => ((k_here; (with_reducible show wpAny _ _ (subscriptTail _ (Expr.Slice none (some _) none _) (Value.ref _) _) _ _ _); first | k_dflt (refine slice_butlast (s := ⟨_, _, _, _, _⟩) (by k_asm) (by k_asm) (by k_mem) (by assumption) (by with_reducible assumption) (by rfl) ?_; intro r7 vs7 h7 F7 N7 hI7 hl7; (try dsimp only)) | refine Hold.mk ?_))
  trivial
theorem ints_last {vs : List Value} {ns : List Int} (h : IntsAre vs ns) (h0 : 0 < vs.length) : ∃ t, vs[vs.length - 1]? = some (.int (ns.getLast?.getD 0) t) := by
  induction h with
  | nil => simp at h0
  | cons n t r ih =>
    rename_i vs' ns'
    cases r with
    | nil => exact ⟨t, rfl⟩
    | cons n' t' r' =>
      obtain ⟨t2, e⟩ := ih (by simp)
      refine ⟨t2, ?_⟩
      simpa using e
theorem item_last {w : World} {prog : Program} {A : Around} {E : Value → Shared → Prop} {s : Shared} {h₀ : Heap} {L : Addr} {news : List (Addr × Obj)} {value slice : Expr} {l : Addr} {u : Tok} {n : Nat} {vs : List Value} {ns : List Int} {Q : Value → Shared → Prop}
    (N : News h₀ L s.heap news) (hm : (l, listOf vs.toArray n) ∈ news) (hi : IntsAre vs ns) (hne : decide (ns = []) = false) (h : ∀ t, Q (.int (ns.getLast?.getD 0) t) s)
    (hs : subscripted slice false (.ref l) (.int (-1) u) = operate [.ref l, .int (-1) u] (getItem (.ref l) (.int (-1) u)) := by with_unfolding_all rfl) (hg : ∀ r, letTemporaryGo value (.ref l) r = pure () := by intro _; with_unfolding_all rfl) :
    wpAny (model prog w) A (subscriptTail value slice (.ref l) (.int (-1) u)) Q E s := by
  have hz : 0 < vs.length := by
    rw [hi.length]
    cases ns with
    | nil => simp at hne
    | cons => simp
  obtain ⟨t, e⟩ := ints_last hi hz
  refine subscriptTail_ops (Heap.IsList.typeIs (N.isList hm)) list_getitem_lookup (wpAny_getItem_list_neg (N.isList hm) (by omega) (by simp; omega) (by omega) (x := .int (ns.getLast?.getD 0) t) ?_ (h t)) hs hg
  have e2 : ((-1 : Int) + (vs.toArray.size : Int)).toNat = vs.length - 1 := by simp; omega
  rw [e2]
  simpa using e
example : True := by
  k_with "subscriptTail Name UnaryOp ref int" => ((k_here; first | k_dflt (refine item_last (by k_asm) (by k_mem) (by assumption) (by with_reducible assumption) ?_; intro t5; (try dsimp only)) | refine Hold.mk ?_))
  trivial
example : True := by
  k_with "binaryOp Mult ref int" => ((k_here; k_dflt (refine mul_one (by k_asm) (by k_asm) (by k_mem) (by first | exact idx_div _ _ | exact idx_mod _ _) (by first | exact Nat.le_trans (Nat.div_le_self _ _) (by with_reducible assumption) | exact Nat.le_trans (Nat.mod_le _ _) (by with_reducible assumption)) ?_; intro r8 vs8 h8 F8 N8 hI8 hl8; (try dsimp only))))
  trivial
example : True := by
  k_with "ps_all" => (repeat (first | exact List.forall_mem_nil _ | (refine List.forall_mem_cons.mpr ⟨by rfl, ?_⟩)))
  trivial
example : True := by
  k_with "call ref" => ((k_here; (with_reducible show wpAny _ _ (call (Value.ref 141) _) _ _ _); (try dsimp only); first | k_dflt (refine wp_up (A' := ktrTop 420 120 _ _ _ _ _ _ [] _) rfl (Nat.le_of_ble_eq_true rfl) rfl rfl (Nat.le_of_ble_eq_true rfl) (piece_spec (by k_asm) (by k_asm) (by k_asm) (by k_asm) (by k_asm) rfl _ _ _ _ _ (by omega) (by kst_mem) (by with_reducible assumption) ?_); intro r9 vs9 n9 tk9 h9 F9 N9 hI9 hl9; (try dsimp only)) | refine Hold.mk ?_))
  trivial

theorem bne_t {a b : Str} (h : (a != b) = true) : (a == b) = false := by unfold bne at h; simpa using h
theorem bne_f {a b : Str} (h : (a != b) = false) : (a == b) = true := by unfold bne at h; simpa using h
theorem told_facts {x : Str} {k rn pn : Nat} (hk : k < x.length) (hrn : rn = runN ((cs x).drop k)) (hpn : pn = (pieceW (((cs x).drop k).drop rn)).length) :
    k + rn + pn ≤ x.length ∧ 1 ≤ rn + pn ∧ (Txt.slice x (some ((k + rn : Nat) : Int)) (some ((k + rn + pn : Nat) : Int))) = St (pieceW (((cs x).drop k).drop rn)) := by
  have h1 := runN_le ((cs x).drop k)
  have h2 := pieceW_le (((cs x).drop k).drop rn)
  have h3 := told_less (drop_ne hk)
  rw [List.length_drop, List.length_drop, ← len_cs] at h2
  rw [List.length_drop, ← len_cs] at h1
  rw [← hrn, ← hpn] at h3
  refine ⟨by omega, h3, ?_⟩
  rw [slice_ij, List.drop_take, ← List.drop_drop, Nat.add_sub_cancel_left]
  congr 1
  have e := pieceW_app (((cs x).drop k).drop rn)
  rw [hpn]
  have e2 : ∀ (a b c : List Nat), a ++ b = c → c.take a.length = a := fun a b c h => by rw [← h, List.take_left]
  exact e2 _ _ _ e
theorem told_next {x : Str} {k rn pn : Nat} (hrn : rn = runN ((cs x).drop k)) (hpn : pn = (pieceW (((cs x).drop k).drop rn)).length) :
    cutL ((cs x).drop k) = toldHead rn (pieceW (((cs x).drop k).drop rn)) ++ cutL ((cs x).drop (k + rn + pn)) := by
  have := told_step ((cs x).drop k)
  rw [← hrn, ← hpn] at this
  rw [this, List.drop_drop, List.drop_drop, Nat.add_assoc]
set_option maxHeartbeats 1200000 in
theorem told_spec {w : World} {mean : ExcName → Option Value} {mg mb : Str → Option Value} {A₀ : Around} {base h₀ : Heap} {outer : List Env} {L : Addr} {m : Str → Option Value} {s : Shared} {news : List (Addr × Obj)} {Q E : Value → Shared → Prop}
    {gd : Option (List Code)} {cn : Str} {cs' : Scope} {a : Addr} {ccd : Value} {cl : List (Str × Addr)} {p : Program} {loose : List Str}
    (B : Below A₀ base outer h₀) (F : Fr h₀ L s.heap m) (KX : (hd.heap_39 w.params).In h₀) (N : News h₀ L s.heap news) (T : Top p loose mean mg mb h₀) (hk : cs'.kind = .function) (x : Str) (t : Tok) (ol : Addr) (ovs : List Value) (on : Nat) (hx : x.length ≤ 40) (hm : (ol, listOf ovs.toArray on) ∈ news) (hS : StrsAre ovs (ordL.map St))
    (ret : ∀ r (vs : List Value) n tk h', Fr h₀ L h' m → News h₀ L h' ((r, listOf vs.toArray n) :: news) → IntsAre vs (cutL (cs x)) → vs.length ≤ 40 → Q (.ref r) { s with heap := h', toks := tk }) :
    wpAny (model Mine.rwS.row.prog w) (ktrTop 410 110 gd cn cs' L a ccd cl outer) (call (.ref 148) [.str x t, .ref ol]) Q E s := by
  k_with "exec While Compare cons nil" => refine Hold.mk ?_
  k_with "exec While BoolOp cons nil" => refine Hold.mk ?_
  have hcl : (cutL (cs x)).length ≤ 40 := by have := cutL_len (cs x); rw [← len_cs] at this; omega
  refine wpAny_call ?_
  k_dflt cell_enter
  k_steps
  refine Hold.out ?_
  rename_i g L1 h1 FG B1 X1 T1 tk0 lr h2 hlr h3 h4 F1 N1
  have F2 := fr_canon F1 [("text", .str x t), ("order", .ref ol), ("row", .ref lr), ("at", .int 0 tk)] (by walk_at "ps_all")
  clear F1
  obtain ⟨I, hI0⟩ : ∃ I : Nat → Shared → Prop, ∀ n s', I n s' ↔ (∃ (k : Nat) (vs : List Value) (nn : Nat) (lr : Addr) (u : Str → Option Value) (tk ta : Nat) (h' : Heap), n = x.length - k ∧ k ≤ x.length ∧
      Fr g L1 h' (kstB u [("text", .str x t), ("order", .ref ol), ("row", .ref lr), ("at", .int (k : Int) ta)]) ∧ News g L1 h' ((lr, listOf vs.toArray nn) :: news) ∧ (∃ done, IntsAre vs done ∧ cutL (cs x) = done ++ cutL ((cs x).drop k)) ∧
      s' = { s with heap := h', toks := tk }) := ⟨_, fun _ _ => Iff.rfl⟩
  refine my_while I x.length ?init ?turn
  case init => exact (hI0 _ _).mpr ⟨0, [], 0, lr, _, _, _, _, by simp, Nat.zero_le _, F2, N1, ⟨[], .nil, rfl⟩, rfl⟩
  case turn =>
    clear F2 N1 hlr
    intro n s' hs'
    obtain ⟨k, vs, nn, lr, u, tk, ta, h', rfl, hkx, F1, N1, ⟨done, hI, hd⟩, rfl⟩ := (hI0 _ _).mp hs'
    clear hs'
    have hvs : vs.length ≤ 40 := by have := congrArg List.length hd; rw [List.length_append, ← hI.length] at this; omega
    obtain ⟨rn, hrn⟩ : ∃ rn, rn = runN ((cs x).drop k) := ⟨_, rfl⟩
    obtain ⟨pn, hpn⟩ : ∃ pn, pn = (pieceW (((cs x).drop k).drop rn)).length := ⟨_, rfl⟩
    k_steps
    · refine Hold.out ?_
      have hkl : k < x.length := by omega
      have hf := told_facts hkl hrn hpn
      obtain ⟨hf1, hf2, hpc⟩ := hf
      obtain ⟨J, hJ⟩ : ∃ J : Shared → Prop, ∀ s', J s' ↔ (∃ (u : Str → Option Value) (tk tz : Nat) (h' : Heap), Fr g L1 h' (kstB u [("text", .str x t), ("order", .ref ol), ("row", .ref lr), ("at", .int (k : Int) ta), ("run", .int ((k + rn : Nat) : Int) tz)]) ∧
         News g L1 h' ((lr, listOf vs.toArray nn) :: news) ∧ s' = { s with heap := h', toks := tk }) := ⟨_, fun _ => Iff.rfl⟩
      refine split_stmt J ?_ ?_
      · rename Fr _ _ _ _ => F5
        rename News _ _ _ _ => N5
        have F6 := fr_canon F5 [("text", .str x t), ("order", .ref ol), ("row", .ref lr), ("at", .int (k : Int) ta), ("run", _)] (by walk_at "ps_all")
        obtain ⟨I1, hI1⟩ : ∃ I1 : Nat → Shared → Prop, ∀ n s', I1 n s' ↔ (∃ (r : Nat) (u : Str → Option Value) (tk tz : Nat) (h' : Heap), n = x.length - r ∧ k ≤ r ∧ r ≤ k + rn ∧ Fr g L1 h' (kstB u [("text", .str x t), ("order", .ref ol), ("row", .ref lr), ("at", .int (k : Int) ta), ("run", .int (r : Int) tz)]) ∧
         News g L1 h' ((lr, listOf vs.toArray nn) :: news) ∧ s' = { s with heap := h', toks := tk }) := ⟨_, fun _ _ => Iff.rfl⟩
        refine my_while I1 (x.length - k) ?init1 ?turn1
        case init1 => exact (hI1 _ _).mpr ⟨k, _, _, _, _, rfl, Nat.le_refl _, Nat.le_add_right _ _, F6, N5, rfl⟩
        case turn1 =>
          clear F5 F6 N5
          intro n s' hs'
          obtain ⟨r, u, tk, tz, h', rfl, hr1, hr2, F1, N1, rfl⟩ := (hI1 _ _).mp hs'
          clear hs'
          k_steps
          · rename Fr _ _ _ _ => F9
            rename News _ _ _ _ => N9
            have hup := run_up hrn hr1 hr2 (by with_reducible assumption) (by with_reducible assumption)
            have hrx : r < x.length := Int.ofNat_lt.mp (by with_reducible assumption)
            exact TurnEnd.next (x.length - (r + 1)) (Nat.sub_lt_sub_left hrx (Nat.lt_succ_self r)) ((hI1 _ _).mpr ⟨r + 1, _, _, _, _, rfl, Nat.le_succ_of_le hr1, hup, fr_canon F9 [("text", .str x t), ("order", .ref ol), ("row", .ref lr), ("at", .int (k : Int) ta), ("run", _)] (by walk_at "ps_all"), N9, rfl⟩)
          all_goals
            rename Fr _ _ _ _ => F9
            rename News _ _ _ _ => N9
          · have he := run_end2 hrn hr1 hr2 (by with_reducible assumption) (by with_reducible assumption)
            subst he
            exact Hold.out ⟨by trivial, (hJ _).mpr ⟨_, _, _, _, F9, N9, rfl⟩⟩
          · have he := run_end1 hrn hr1 hr2 (by with_reducible assumption)
            subst he
            exact Hold.out ⟨by trivial, (hJ _).mpr ⟨_, _, _, _, F9, N9, rfl⟩⟩
      · intro s' hs'
        obtain ⟨u, tk, tz, h', F1, N1, rfl⟩ := (hJ _).mp hs'
        clear hs'
        k_steps
        refine Hold.out ?_
        rw [List.drop_drop] at hpn
        obtain ⟨J2, hJ2⟩ : ∃ J2 : Shared → Prop, ∀ s', J2 s' ↔ (∃ (u : Str → Option Value) (tk te : Nat) (h' : Heap), Fr g L1 h' (kstB u [("text", .str x t), ("order", .ref ol), ("row", .ref lr), ("at", .int (k : Int) ta), ("run", .int ((k + rn : Nat) : Int) tz), ("end", .int ((k + rn + pn : Nat) : Int) te)]) ∧
           News g L1 h' ((lr, listOf vs.toArray nn) :: news) ∧ s' = { s with heap := h', toks := tk }) := ⟨_, fun _ => Iff.rfl⟩
        refine split_stmt J2 ?_ ?_
        · rename Fr _ _ _ _ => F5
          rename News _ _ _ _ => N5
          have F6 := fr_canon F5 [("text", .str x t), ("order", .ref ol), ("row", .ref lr), ("at", .int (k : Int) ta), ("run", .int ((k + rn : Nat) : Int) tz), ("end", _)] (by walk_at "ps_all")
          obtain ⟨I2, hI2⟩ : ∃ I2 : Nat → Shared → Prop, ∀ n s', I2 n s' ↔ (∃ (r : Nat) (u : Str → Option Value) (tk te : Nat) (h' : Heap), n = x.length - r ∧ k + rn ≤ r ∧ r ≤ k + rn + pn ∧ Fr g L1 h' (kstB u [("text", .str x t), ("order", .ref ol), ("row", .ref lr), ("at", .int (k : Int) ta), ("run", .int ((k + rn : Nat) : Int) tz), ("end", .int (r : Int) te)]) ∧
           News g L1 h' ((lr, listOf vs.toArray nn) :: news) ∧ s' = { s with heap := h', toks := tk }) := ⟨_, fun _ _ => Iff.rfl⟩
          refine my_while I2 (x.length - (k + rn)) ?init2 ?turn2
          case init2 => exact (hI2 _ _).mpr ⟨k + rn, _, _, _, _, rfl, Nat.le_refl _, Nat.le_add_right _ _, F6, N5, rfl⟩
          case turn2 =>
            clear F5 F6 N5
            intro n s' hs'
            obtain ⟨r, u, tk, te, h', rfl, hr1, hr2, F1, N1, rfl⟩ := (hI2 _ _).mp hs'
            clear hs'
            k_steps
            · rename Fr _ _ _ _ => F9
              rename News _ _ _ _ => N9
              have hup := pc_up hpn hr1 hr2 (by with_reducible assumption) (bne_t (by with_reducible assumption))
              have hrx : r < x.length := Int.ofNat_lt.mp (by with_reducible assumption)
              exact TurnEnd.next (x.length - (r + 1)) (Nat.sub_lt_sub_left hrx (Nat.lt_succ_self r)) ((hI2 _ _).mpr ⟨r + 1, _, _, _, _, rfl, Nat.le_succ_of_le hr1, hup, fr_canon F9 [("text", .str x t), ("order", .ref ol), ("row", .ref lr), ("at", .int (k : Int) ta), ("run", .int ((k + rn : Nat) : Int) tz), ("end", _)] (by walk_at "ps_all"), N9, rfl⟩)
            all_goals
              rename Fr _ _ _ _ => F9
              rename News _ _ _ _ => N9
            · have he := pc_end2 hpn hr1 hr2 (by with_reducible assumption) (bne_f (by with_reducible assumption))
              subst he
              exact Hold.out ⟨by trivial, (hJ2 _).mpr ⟨_, _, _, _, F9, N9, rfl⟩⟩
            · have he := pc_end1 hpn hr1 hr2 (by with_reducible assumption)
              subst he
              exact Hold.out ⟨by trivial, (hJ2 _).mpr ⟨_, _, _, _, F9, N9, rfl⟩⟩
        · intro s' hs'
          obtain ⟨u, tk, te, h', F1, N1, rfl⟩ := (hJ2 _).mp hs'
          clear hs'
          rw [← List.drop_drop] at hpn
          have hnext := told_next hrn hpn
          have hrn40 : rn ≤ 40 := Nat.le_trans (Nat.le_add_left rn k) (Nat.le_trans (Nat.le_add_right _ pn) (Nat.le_trans hf1 hx))
          k_steps
          all_goals
            rename Fr _ _ _ _ => F9
            rename News _ _ _ _ => N9
            rename IntsAre _ _ => hI9
            refine TurnEnd.next (x.length - (k + rn + pn)) (Nat.sub_lt_sub_left hkl (by rw [Nat.add_assoc]; exact Nat.lt_add_of_pos_right hf2)) ((hI0 _ _).mpr ⟨k + rn + pn, _, _, _, _, _, _, _, rfl, hf1, fr_canon F9 [("text", .str x t), ("order", .ref ol), ("row", .ref _), ("at", .int ((k + rn + pn : Nat) : Int) _)] (by walk_at "ps_all"), news_sub N9 (by kst_allIn), ⟨_, hI9, ?_⟩, rfl⟩)
            rw [hd, hnext]
            first
              | rw [head_plain hpc (.inl (by with_reducible assumption))]
              | rw [head_plain hpc (.inr (by with_reducible assumption))]
              | rw [head_join (v := 48) hpc (by with_reducible assumption) (by with_reducible assumption) (.inl ⟨by with_reducible assumption, rfl⟩)]
              | rw [head_join (v := 39) hpc (by with_reducible assumption) (by with_reducible assumption) (.inr ⟨by with_reducible assumption, rfl⟩)]
            simp only [List.append_assoc]
    · refine ret lr vs nn _ _ ?_ ?_ ?_ hvs
      · assumption
      · assumption
      · have e : k = x.length := by omega
        rw [e, List.drop_of_length_le (by rw [← len_cs]; omega), cutL_nil, List.append_nil] at hd
        rw [hd]
        exact hI
end Mine
end
section -- L1
example : True := by
  w_top off
  k_with_none
  trivial
open PySem PySem.W PyProof.Rows PySem.Calls
namespace Mine
local macro_rules | `(tactic| walk_at $s:str) => `(tactic| k_extra $s)
example : Mine.rwS = Mine.rwS ∧ hd.heap_39 = hd.heap_39 := by k_fill; exact ⟨rfl, rfl⟩

/-- how a turn of a for may end: the loop's iterator, and what the loop keeps -/
def LoopEnd (h₀ : Heap) (L I : Addr) (io : Obj) (J : (Str → Option Value) → List (Addr × Obj) → Prop) (s : Shared) (Q : Flow → Shared → Prop) (f : Flow) (s₂ : Shared) : Prop := match f with
  | .ret v => Q (.ret v) s₂
  | .brk => Q .next s₂
  | _ => ∃ h' tk m' nx, s₂ = { s with heap := h', toks := tk } ∧ Fr h₀ L h' m' ∧ News h₀ L h' ((I, io) :: nx) ∧ (∀ p ∈ nx, p.1 ≠ I) ∧ J m' nx
theorem LoopEnd.next {h₀ : Heap} {L I : Addr} {io : Obj} {J : (Str → Option Value) → List (Addr × Obj) → Prop} {s : Shared} {Q : Flow → Shared → Prop} {h' : Heap} {tk : Nat} {m' : Str → Option Value} (nx : List (Addr × Obj))
    (F : Fr h₀ L h' m') (N : News h₀ L h' ((I, io) :: nx)) (ha : ∀ p ∈ nx, p.1 ≠ I) (j : J m' nx) : LoopEnd h₀ L I io J s Q .next { s with heap := h', toks := tk } := ⟨h', tk, m', nx, rfl, F, N, ha, j⟩
section
variable {prog : Program} {w : World} {A : Around} {E : Value → Shared → Prop} {s : Shared} {env : Env} {h₀ : Heap} {x : Str} {body : List Stmt} {Q : Flow → Shared → Prop}
theorem my_loop {I : Addr} {n : Nat} {P : Nat → Value → Prop} {St : Nat → Heap → Prop} {m₀ : Str → Option Value} {news : List (Addr × Obj)} (J : Nat → (Str → Option Value) → List (Addr × Obj) → Prop)
    (W : Walks prog w A I [I] [I] n P St) (st : St 0 s.heap) (hst : ∀ i h, St i h → ∃ o, h.get? I = some o) (hI : ∀ p ∈ news, p.1 ≠ I) (hL : env.locals ≠ I) (hn : h₀.get? I = none) (F : Fr h₀ env.locals s.heap m₀) (N : News h₀ env.locals s.heap news) (j : J 0 m₀ news)
    (turn : ∀ i v m₁ nx h tk io, i < n → P i v → J i m₁ nx → (∀ p ∈ nx, p.1 ≠ I) → Fr h₀ env.locals h (fun y => if y = x then some v else m₁ y) → News h₀ env.locals h ((I, io) :: nx) →
      wpAny (model prog w) A (execs body env) (LoopEnd h₀ env.locals I io (J (i + 1)) { s with heap := h, toks := tk } Q) E { s with heap := h, toks := tk })
    (done : ∀ m₁ nx h tk, J n m₁ nx → Fr h₀ env.locals h m₁ → News h₀ env.locals h nx → Q .next { s with heap := h, toks := tk }) :
    LoopAtV prog w A h₀ env x body Q E (.ref I) s := by
  refine ⟨I, [I], [I], n, P, St, m₀, news, J, rfl, W, fun q => hL (List.mem_singleton.mp q), fun b hb => by rw [List.mem_singleton.mp hb]; exact hn, fun p hp q => hI p hp (List.mem_singleton.mp q), st, F, N, j, ?_, ?_⟩
  · rintro i v m₁ nx s₁ own ⟨hh, tk, rfl⟩ hin hP hJ hoff hown hget hall hSt F₁ N₁
    obtain ⟨io, hio⟩ := hst _ _ hSt
    have hmem := hall I (List.mem_singleton.mpr rfl) hn io hio
    have N₂ : News h₀ env.locals hh ((I, io) :: nx) := fun p hp => by
      rcases List.mem_cons.mp hp with rfl | hp
      · exact N₁ _ (List.mem_append.mpr (.inl hmem))
      · exact N₁ _ (List.mem_append.mpr (.inr hp))
    have ow : ∀ p ∈ own, p = (I, io) := fun p hp => by
      have h1 := List.mem_singleton.mp (hown p hp)
      have h2 := hget p hp
      rw [h1, hio] at h2
      obtain ⟨a, o⟩ := p
      simp only at h1 h2
      rw [h1, Option.some.inj h2]
    refine wpAny_mono (turn i v m₁ nx hh tk io hin hP hJ (fun p hp q => hoff p hp (List.mem_singleton.mpr q)) F₁ N₂) (fun f s₂ e => ?_) fun _ _ e => e
    have fin : (∃ h' tk' m' nx', s₂ = { s with heap := h', toks := tk' } ∧ Fr h₀ env.locals h' m' ∧ News h₀ env.locals h' ((I, io) :: nx') ∧ (∀ p ∈ nx', p.1 ≠ I) ∧ J (i + 1) m' nx') → LoopStepU h₀ env.locals [I] own (J (i + 1)) { s with heap := hh, toks := tk } .next s₂ := by
      rintro ⟨h', tk', m', nx', e, F', N', ha, hj⟩
      refine ⟨rfl, h', tk', m', nx', e, F', fun p hp => ?_, fun p hp q => ha p hp (List.mem_singleton.mp q), hj⟩
      rcases List.mem_append.mp hp with hp | hp
      · rw [ow p hp]; exact N' _ (.head _)
      · exact N' _ (.tail _ hp)
    cases f with
    | ret v => exact .ret e
    | brk => exact .brk e
    | next => exact .next (fin e)
    | cont => exact .cont (fin e)
  · intro h' tk m' nx F' N' _ hJ
    exact done m' nx h' tk hJ F' N'
/-- over a range, up or down by ones -/
theorem my_range {r : Addr} {a b c : Int} {t u v : Tok} {n : Nat} {m₀ : Str → Option Value} {news : List (Addr × Obj)} (J : Nat → (Str → Option Value) → List (Addr × Obj) → Prop)
    (hh : A.handled = none) (hr : IsRange s.heap r a b c t u v) (hs : Builtin.Range.small a b c = true) (hz : Builtin.Range.rangeSize a b c = (n : Int)) (F : Fr h₀ env.locals s.heap m₀) (N : News h₀ env.locals s.heap news) (j : J 0 m₀ news)
    (turn : ∀ i t m₁ nx h tk I io, i < n → J i m₁ nx → (∀ p ∈ nx, p.1 ≠ I) → Fr h₀ env.locals h (fun y => if y = x then some (.int (a + (i : Int) * c) t) else m₁ y) → News h₀ env.locals h ((I, io) :: nx) →
      wpAny (model prog w) A (execs body env) (LoopEnd h₀ env.locals I io (J (i + 1)) { s with heap := h, toks := tk } Q) E { s with heap := h, toks := tk })
    (done : ∀ m₁ nx h tk, J n m₁ nx → Fr h₀ env.locals h m₁ → News h₀ env.locals h nx → Q .next { s with heap := h, toks := tk }) :
    wpAny (model prog w) A (pyIter (.ref r)) (fun it s₂ => LoopAtV prog w A h₀ env x body Q E it s₂) E s := by
  refine wpAny_pyIter_range hr hs ?_
  have W := Walks.range (prog := prog) (w := w) hh s.heap.objs.size a c n
  have hlt : env.locals < s.heap.objs.size := F.ns.lt
  refine my_loop J W (by show IsRangeIter _ _ _ _ _; rw [hz]; simpa using Heap.get?_push_size _ rfl) (fun i h st => ⟨_, st⟩) (fun p hp => Nat.ne_of_lt (Heap.lt_size (N p hp).1)) (Nat.ne_of_lt hlt) (next_is_new F) (F.push _) (fun p hp => ⟨Heap.get?_push_of_some _ (N p hp).1, (N p hp).2⟩) j ?_ ?_
  · rintro i v m₁ nx h tk io hin ⟨t, rfl⟩ hJ ha F₁ N₁
    exact turn i t m₁ nx h tk _ io hin hJ ha F₁ N₁
  · exact done
end
end Mine
end
section -- Hd
example : True := by
  w_top off
  k_with_none
  trivial
open PySem PySem.W PyProof.Rows PySem.Calls
namespace Mine
local macro_rules | `(tactic| walk_at $s:str) => `(tactic| k_extra $s)
example : Mine.rwS = Mine.rwS ∧ hd.heap_39 = hd.heap_39 := by k_fill; exact ⟨rfl, rfl⟩

example : True := by
  k_with "ps_all" => (repeat (first | exact List.forall_mem_nil _ | (refine List.forall_mem_cons.mpr ⟨by rfl, ?_⟩)))
  trivial
theorem add_fresh {w : World} {prog : Program} {A : Around} {E : Value → Shared → Prop} {s : Shared} {h₀ : Heap} {L : Addr} {m : Str → Option Value} {news : List (Addr × Obj)} {l b : Addr} {n n2 : Nat} {vs ws : List Value} {ns ms : List Int} {Q : Value → Shared → Prop}
    (F : Fr h₀ L s.heap m) (N : News h₀ L s.heap news) (hm : (l, listOf vs.toArray n) ∈ news) (hm2 : (b, listOf ws.toArray n2) ∈ news) (hi : IntsAre vs ns) (hj : IntsAre ws ms) (hz : vs.length + ws.length ≤ 1000)
    (h : ∀ r us h', Fr h₀ L h' m → News h₀ L h' ((r, listOf us.toArray 0) :: news) → IntsAre us (ns ++ ms) → us.length = vs.length + ws.length → (∀ p ∈ news, p.1 < r) → Q (.ref r) { s with heap := h' }) :
    wpAny (model prog w) A (binaryOp .Add (.ref l) (.ref b)) Q E s :=
  add_lists (hsz := by rw [sizeLine_eq]; omega) F N (N.isList hm) (N.isList hm2) fun h' F' N' => h _ _ _ F' N' (hi.append hj) (by simp) fun p hp => Heap.lt_size (N p hp).1
example : True := by
  k_with "binaryOp Add ref ref" => ((k_here; (try dsimp only); first | k_dflt (refine add_fresh (by k_asm) (by k_asm) (by k_mem) (by k_mem) (by assumption) (by first | assumption | exact .cons _ _ .nil) (by (have hw9 := IntsAre.length (by assumption : IntsAre _ (List.drop 1 _))); (simp only [List.length_cons, List.length_nil]; omega)) ?_; intro r6 vs6 h6 F6 N6 hI6 hl6 lt6; (try simp only [List.length_cons, List.length_nil] at hl6); (try k_lt lt6); (try dsimp only)) | refine Hold.mk ?_))
  trivial
example : True := by
  k_with "pyIter ref" => ((refine Hold.mk ?_))
  trivial
inductive ListsAre (led : List (Addr × Obj)) : List Value → List (List Int) → Prop
  | nil : ListsAre led [] []
  | cons {a : Addr} {vs : List Value} {n : Nat} {ns : List Int} {hvs : List Value} {nss : List (List Int)} : (a, listOf vs.toArray n) ∈ led → IntsAre vs ns → ListsAre led hvs nss → ListsAre led (.ref a :: hvs) (ns :: nss)
theorem ListsAre.mono {led led' : List (Addr × Obj)} {hvs : List Value} {nss : List (List Int)} (h : ListsAre led hvs nss) (hs : ∀ p ∈ led, p ∈ led') : ListsAre led' hvs nss := by
  induction h with
  | nil => exact .nil
  | cons hm hi _ ih => exact .cons (hs _ hm) hi ih
theorem ListsAre.snoc {led : List (Addr × Obj)} {hvs : List Value} {nss : List (List Int)} (h : ListsAre led hvs nss) {a : Addr} {vs : List Value} {n : Nat} {ns : List Int} (hm : (a, listOf vs.toArray n) ∈ led) (hi : IntsAre vs ns) : ListsAre led (hvs ++ [.ref a]) (nss ++ [ns]) := by
  induction h with
  | nil => exact .cons hm hi .nil
  | cons hm' hi' _ ih => exact .cons hm' hi' ih
theorem ListsAre.length {led : List (Addr × Obj)} {hvs : List Value} {nss : List (List Int)} (h : ListsAre led hvs nss) : hvs.length = nss.length := by
  induction h with
  | nil => rfl
  | cons _ _ _ ih => simp [ih]
theorem of_allLt {d : Addr} {l : List (Addr × Obj)} (h : AllLt d l) : ∀ p ∈ l, p.1 < d := by
  induction l with
  | nil => intro p hp; cases hp
  | cons q r ih =>
    obtain ⟨h1, h2⟩ := (h : q.1 < d ∧ AllLt d r)
    intro p hp
    rcases List.mem_cons.mp hp with rfl | hp
    · exact h1
    · exact ih h2 p hp
theorem good_iff {row : List Int} {q : Nat} (hq : q < row.length) : goodAt row q ↔ (([17, 47] : List Int).any (fun x => x == row.getD q 0) = false ∧ ([17, 39, 47, 48] : List Int).any (fun x => x == (List.drop 1 row ++ [17]).getD q 0) = true) := by
  unfold goodAt goodS
  have e : (List.drop 1 row ++ [17]).getD q 0 = if q + 1 < row.length then row.getD (q + 1) 0 else 17 := by
    rw [List.getD_eq_getElem?_getD]
    by_cases h : q + 1 < row.length
    · rw [if_pos h, List.getElem?_append_left (by rw [List.length_drop]; exact Nat.lt_sub_of_add_lt h), List.getElem?_drop, List.getD_eq_getElem?_getD, Nat.add_comm 1 q]
    · have hl : row.length - 1 = q := by rw [Nat.le_antisymm (Nat.le_of_not_lt h) hq, Nat.add_sub_cancel]
      rw [if_neg h, List.getElem?_append_right (by rw [List.length_drop, hl]; exact Nat.le_refl _), List.length_drop, hl, Nat.sub_self]
      rfl
  rw [e]
  generalize row.getD q 0 = v
  refine and_congr ?_ ?_
  · simp only [List.any_cons, List.any_nil, Bool.or_false, Bool.or_eq_false_iff, beq_eq_false_iff_ne, ne_eq, @eq_comm Int v]
  · by_cases h : q + 1 < row.length
    · rw [if_pos h, List.drop_eq_getElem_cons h]
      simp only [reduceCtorEq, false_or, List.headD_cons, List.getD_eq_getElem?_getD, List.getElem?_eq_getElem h, Option.getD_some]
      simp only [List.any_cons, List.any_nil, Bool.or_false, Bool.or_eq_true, beq_iff_eq, @eq_comm Int _ row[q + 1]]
    · rw [if_neg h, List.drop_of_length_le (Nat.le_of_not_lt h)]
      simp
theorem hN_good {row : List Int} {q : Nat} (h : goodAt row q) : hN row (q + 1) = [row.take (q + 1)] ++ hN row q := by rw [hN, if_pos h]
theorem hN_bad {row : List Int} {q : Nat} (h : ¬ goodAt row q) : hN row (q + 1) = hN row q := by rw [hN, if_neg h]; rfl
theorem down_idx {n i : Nat} (h : i < n) : ∃ q : Nat, n - i = q + 1 ∧ (n : Int) - 1 + (i : Int) * -1 = (q : Int) ∧ n - (i + 1) = q ∧ q < n := by
  obtain ⟨d, rfl⟩ := Nat.exists_eq_add_of_lt h
  exact ⟨d, by rw [Nat.add_assoc, Nat.add_sub_cancel_left], by omega, by rw [Nat.add_right_comm, Nat.add_sub_cancel_left], Nat.lt_succ_of_le (Nat.le_add_left _ _)⟩
theorem toNat_0 (q : Nat) : ((q : Nat) : Int).toNat = q := rfl
theorem toNat_1 (q : Nat) : (((q : Nat) : Int) + 1).toNat = q + 1 := rfl
theorem down_small {n : Nat} (h : n ≤ 40) : Builtin.Range.small ((n : Int) - 1) (-1) (-1) = true ∧ ((n : Int) - 1 - (-1)).toNat = n := by
  constructor
  · exact small_down (by omega) (by omega) (by decide) (by decide)
  · omega
set_option maxHeartbeats 1200000 in
theorem heads_spec {w : World} {mean : ExcName → Option Value} {mg mb : Str → Option Value} {A₀ : Around} {base h₀ : Heap} {outer : List Env} {L : Addr} {m : Str → Option Value} {s : Shared} {news : List (Addr × Obj)} {Q E : Value → Shared → Prop}
    {gd : Option (List Code)} {cn : Str} {cs' : Scope} {a : Addr} {ccd : Value} {cl : List (Str × Addr)} {p : Program} {loose : List Str}
    (B : Below A₀ base outer h₀) (F : Fr h₀ L s.heap m) (KX : (hd.heap_39 w.params).In h₀) (N : News h₀ L s.heap news) (T : Top p loose mean mg mb h₀) (hk : cs'.kind = .function) (sl : Addr) (svs : List Value) (sn : Nat) (row : List Int) (hm : (sl, listOf svs.toArray sn) ∈ news) (hS : IntsAre svs row) (hlen : svs.length ≤ 40)
    (ret : ∀ r (hvs : List Value) n tk h' own, Fr h₀ L h' m → News h₀ L h' ((r, listOf hvs.toArray n) :: own) → (∀ p ∈ news, p ∈ own) → ListsAre own hvs (hN row row.length) → hvs.length ≤ 40 → Q (.ref r) { s with heap := h', toks := tk }) :
    wpAny (model Mine.rwS.row.prog w) (ktrTop 410 110 gd cn cs' L a ccd cl outer) (call (.ref 162) [.ref sl]) Q E s := by
  have N : News h₀ L s.heap ((sl, listOf svs.toArray sn) :: news) := fun p hp => by
    rcases List.mem_cons.mp hp with rfl | hp
    · exact N _ hm
    · exact N _ hp
  have hws : ∀ ws : List Value, IntsAre ws (row.drop 1) → ws.length ≤ 40 := fun ws h => by rw [h.length, List.length_drop, ← hS.length]; exact Nat.le_trans (Nat.sub_le _ _) hlen
  have hrl : row.length ≤ 40 := by rw [← hS.length]; exact hlen
  refine wpAny_call ?_
  k_dflt cell_enter
  k_steps
  refine Hold.out ?_
  rename_i g L1 h1 FG B1 X1 T1 tk0 hr h2 hlr h3 tk1 dr wvs h4 hwI hwC hwL hdl lr h5 hll h7 F1 N1 h8 tk2 t2 u2 v2 hrg F8 N8 h9
  have F9 := fr_canon F8 [("symbols", .ref sl), ("heads", .ref hr), ("behind", .ref r6)] (by walk_at "ps_all")
  have N9 : News g L1 h8 ((hr, listOf (List.toArray []) 0) :: (r6, listOf vs6.toArray 0) :: (sl, listOf svs.toArray sn) :: news) := news_sub N8 (by kst_allIn)
  obtain ⟨V, hV⟩ : ∃ V : Nat → (Str → Option Value) → List (Addr × Obj) → Prop, ∀ i m nx, V i m nx ↔ (∃ (hvs : List Value) (hn : Nat) (u : Str → Option Value) (rest : List (Addr × Obj)) (hs : List (List Int)), m = kstB u [("symbols", .ref sl), ("heads", .ref hr), ("behind", .ref r6)] ∧
      nx = (hr, listOf hvs.toArray hn) :: (r6, listOf vs6.toArray 0) :: (sl, listOf svs.toArray sn) :: rest ∧ ListsAre rest hvs hs ∧ (∀ p ∈ rest, p.1 ≠ hr) ∧ (∀ p ∈ news, p ∈ rest) ∧ hvs.length ≤ i ∧ hN row row.length = hs ++ hN row (row.length - i)) := ⟨_, fun _ _ _ => Iff.rfl⟩
  refine my_range V (n := row.length) (by rfl) hrg ?small ?size F9 N9 ?init ?turn ?done
  case small => exact (down_small hrl).1
  case size => rw [rangeSize_downNat, (down_small hrl).2]
  case init =>
    refine (hV _ _ _).mpr ⟨[], 0, _, news, [], rfl, rfl, .nil, fun p hp e => ?_, fun _ h => h, Nat.le_refl _, rfl⟩
    exact Nat.ne_of_lt (of_allLt hlr.2 p hp) e
  case turn =>
    clear F1 N1 F8 N8 F9 N9
    intro i t m₁ nx h tk I io hin hv hI F1 N1
    obtain ⟨hvs, hn, u, rest, hs, rfl, rfl, hL, hoff, hsub, hvl, hd⟩ := (hV _ _ _).mp hv
    clear hv
    have hrI : hr ≠ I := hI _ (.head _)
    have hrsl : sl < hr := hlr.1
    have hrbr : hr < r6 := lt6.2.2.1
    obtain ⟨q, hq, hqe, hq2, hql⟩ := down_idx hin
    rw [hqe] at F1
    clear hqe
    have hq2 : Unit → row.length - (i + 1) = q := fun _ => hq2
    have hgi := good_iff hql
    rw [hq] at hd
    k_steps
    · rename_i ha
      rename Fr _ _ _ _ => F2
      rename News _ _ _ _ => N2
      rw [toNat_0 q] at ha
      have hb : ¬ goodAt row q := fun hg => by rw [(hgi.mp hg).1] at ha; cases ha
      rw [hN_bad hb] at hd
      refine LoopEnd.next ((hr, listOf hvs.toArray hn) :: (r6, listOf vs6.toArray 0) :: (sl, listOf svs.toArray sn) :: rest) (fr_canon F2 [("symbols", .ref sl), ("heads", .ref hr), ("behind", .ref r6)] (by walk_at "ps_all")) (news_sub N2 (by kst_allIn)) hI
        ((hV _ _ _).mpr ⟨hvs, hn, _, rest, hs, rfl, rfl, hL, hoff, hsub, Nat.le_succ_of_le hvl, by rw [hq2 ()]; exact hd⟩)
    · rename_i hb0 _ _ _ _ _ _ ha D2 ws2 h2' F2 N2 hI2 hC2 hL2 lD
      have hD : hr ≠ D2 := Nat.ne_of_lt lD.2.2.2.1
      have hDI : I ≠ D2 := Nat.ne_of_lt lD.2.2.1
      have N3 : News g L1 h2' ((hr, listOf hvs.toArray hn) :: (D2, listOf ws2.toArray 0) :: (I, io) :: (r6, listOf vs6.toArray 0) :: (sl, listOf svs.toArray sn) :: rest) := news_sub N2 (by kst_allIn)
      refine append_K F2 N3 (Upd.head fun p hp => ?_) (fun h9 F9 N9 => ?_) (by rw [List.size_toArray]; exact Nat.le_trans hvl (Nat.le_trans (Nat.le_of_lt hin) (Nat.le_trans hrl (by decide))))
      · rcases List.mem_cons.mp hp with rfl | hp
        · exact hD.symm
        rcases List.mem_cons.mp hp with rfl | hp
        · exact hrI.symm
        rcases List.mem_cons.mp hp with rfl | hp
        · exact Nat.ne_of_gt hrbr
        rcases List.mem_cons.mp hp with rfl | hp
        · exact Nat.ne_of_lt hrsl
        · exact hoff p hp
      rw [List.push_toArray] at N9
      rw [toNat_0 q] at ha hb0
      rw [toNat_1 q] at hI2
      have hg : goodAt row q := hgi.mpr ⟨hb0, ha⟩
      rw [hN_good hg] at hd
      k_steps
      rename Fr _ _ _ _ => F10
      rename News _ _ _ _ => N10
      refine LoopEnd.next ((hr, listOf (hvs ++ [Value.ref D2]).toArray (hn + 1)) :: (r6, listOf vs6.toArray 0) :: (sl, listOf svs.toArray sn) :: (D2, listOf ws2.toArray 0) :: rest) (fr_canon F10 [("symbols", .ref sl), ("heads", .ref hr), ("behind", .ref r6)] (by walk_at "ps_all")) (news_sub N10 (by kst_allIn)) (fun p hp => ?_)
        ((hV _ _ _).mpr ⟨hvs ++ [Value.ref D2], hn + 1, _, (D2, listOf ws2.toArray 0) :: rest, hs ++ [row.take (q + 1)], rfl, rfl, (hL.mono fun p hp => .tail _ hp).snoc (.head _) hI2, fun p hp => ?_, fun p hp => .tail _ (hsub p hp), by rw [List.length_append]; exact Nat.succ_le_succ hvl, by rw [hq2 (), hd, List.append_assoc]⟩)
      · rcases List.mem_cons.mp hp with rfl | hp
        · exact hrI
        rcases List.mem_cons.mp hp with rfl | hp
        · exact hI _ (.tail _ (.head _))
        rcases List.mem_cons.mp hp with rfl | hp
        · exact hI _ (.tail _ (.tail _ (.head _)))
        rcases List.mem_cons.mp hp with rfl | hp
        · exact hDI.symm
        · exact hI _ (.tail _ (.tail _ (.tail _ hp)))
      · rcases List.mem_cons.mp hp with rfl | hp
        · exact hD.symm
        · exact hoff p hp
    · rename_i ha
      rename Fr _ _ _ _ => F2
      rename News _ _ _ _ => N2
      rw [toNat_0 q] at ha
      have hb : ¬ goodAt row q := fun hg => by rw [(hgi.mp hg).2] at ha; cases ha
      rw [hN_bad hb] at hd
      refine LoopEnd.next ((hr, listOf hvs.toArray hn) :: (r6, listOf vs6.toArray 0) :: (sl, listOf svs.toArray sn) :: rest) (fr_canon F2 [("symbols", .ref sl), ("heads", .ref hr), ("behind", .ref r6)] (by walk_at "ps_all")) (news_sub N2 (by kst_allIn)) hI
        ((hV _ _ _).mpr ⟨hvs, hn, _, rest, hs, rfl, rfl, hL, hoff, hsub, Nat.le_succ_of_le hvl, by rw [hq2 ()]; exact hd⟩)
  case done =>
    intro m₁ nx h tk hv F1 N1
    obtain ⟨hvs, hn, u, rest, hs, rfl, rfl, hL, hoff, hsub, hvl, hd⟩ := (hV _ _ _).mp hv
    clear hv
    rw [Nat.sub_self] at hd
    k_steps
    rename Fr h₀ L _ m => F2
    rename News h₀ L _ _ => N2
    refine ret hr hvs hn _ _ ((r6, listOf vs6.toArray 0) :: (sl, listOf svs.toArray sn) :: rest) F2 N2 (fun p hp => .tail _ (.tail _ (hsub p hp))) ?_ (Nat.le_trans hvl hrl)
    rw [hd, show hN row 0 = [] from rfl, List.append_nil]
    exact hL.mono fun p hp => .tail _ (.tail _ hp)
end Mine
end
section -- Sp
example : True := by
  w_top off
  k_with_none
  trivial
open PySem PySem.W PyProof.Rows PySem.Calls
namespace Mine
local macro_rules | `(tactic| walk_at $s:str) => `(tactic| k_extra $s)
example : Mine.rwS = Mine.rwS ∧ hd.heap_39 = hd.heap_39 := by k_fill; exact ⟨rfl, rfl⟩

def splitH (x : Str) : Str := if (Txt.slice x none (some (Txt.rfind x (Str.ofString "/") + 1))).length ≠ 0 ∧ (Txt.slice x none (some (Txt.rfind x (Str.ofString "/") + 1)) != Txt.mul (Str.ofString "/") ((Txt.slice x none (some (Txt.rfind x (Str.ofString "/") + 1))).length : Int)) = true
  then Txt.rstripChars (Txt.slice x none (some (Txt.rfind x (Str.ofString "/") + 1))) (Str.ofString "/") else Txt.slice x none (some (Txt.rfind x (Str.ofString "/") + 1))
end Mine
end
section -- P5
example : True := by
  w_top off
  k_with_none
  trivial
open PySem PySem.W PyProof.Rows PySem.Calls
namespace Mine
def rstL (l : List Nat) : List Nat := l.take (l.length - (l.reverse.takeWhile (· == 47)).length)
def lastL (l : List Nat) : Nat := (l.reverse.takeWhile (· != 47)).length
def headL (l : List Nat) : List Nat := l.take (l.length - lastL l)
def tailL (l : List Nat) : List Nat := l.drop (l.length - lastL l)
theorem app_rev (l : List Nat) (f : Nat → Bool) : l = (l.reverse.dropWhile f).reverse ++ (l.reverse.takeWhile f).reverse := by
  have h := List.takeWhile_append_dropWhile (p := f) (l := l.reverse)
  rw [← List.reverse_append, h, List.reverse_reverse]
theorem len_rev (l : List Nat) (f : Nat → Bool) : l.length - (l.reverse.takeWhile f).length = ((l.reverse.dropWhile f).reverse).length := by
  have := congrArg List.length (app_rev l f)
  rw [List.length_append, List.length_reverse, List.length_reverse] at this
  rw [List.length_reverse]
  omega
theorem drop_app' {α : Type} (a b : List α) {l : List α} (h : l = a ++ b) : l.drop a.length = b := by subst h; simp
theorem take_app' {α : Type} (a b : List α) {l : List α} (h : l = a ++ b) : l.take a.length = a := by subst h; simp
theorem take_rev (l : List Nat) (f : Nat → Bool) : l.drop (l.length - (l.reverse.takeWhile f).length) = (l.reverse.takeWhile f).reverse := by
  rw [len_rev]; exact drop_app' _ _ (app_rev l f)
theorem in_takeWhile (f : Nat → Bool) : ∀ {l : List Nat} {x : Nat}, x ∈ l.takeWhile f → f x = true
  | [], _, h => by simp at h
  | a :: r, x, h => by
    rw [List.takeWhile_cons] at h
    split at h
    · rcases List.mem_cons.mp h with rfl | h
      · assumption
      · exact in_takeWhile f h
    · simp at h
theorem rst_app (l : List Nat) : ∃ n, l = rstL l ++ List.replicate n 47 := by
  refine ⟨(l.reverse.takeWhile (· == 47)).length, ?_⟩
  have h := takeWhile_47 l.reverse
  have h2 : l.drop (l.length - (l.reverse.takeWhile (· == 47)).length) = List.replicate (l.reverse.takeWhile (· == 47)).length 47 := by
    rw [take_rev, h]; simp
  rw [← h2, rstL, List.take_append_drop]
theorem head_tail (l : List Nat) : l = headL l ++ tailL l := (List.take_append_drop _ _).symm
theorem tail_no (l : List Nat) : 47 ∉ tailL l := by
  unfold tailL lastL
  rw [take_rev]
  intro h
  have := List.mem_reverse.mp h
  have h2 := in_takeWhile _ this
  simp at h2
theorem cut_last (l : List Nat) (f : Nat → Bool) : l.take (l.length - (l.reverse.takeWhile f).length) = [] ∨ ∃ c, (l.take (l.length - (l.reverse.takeWhile f).length)).getLast? = some c ∧ f c = false := by
  have e : l.take (l.length - (l.reverse.takeWhile f).length) = (l.reverse.dropWhile f).reverse := by
    rw [len_rev]; exact take_app' _ _ (app_rev l f)
  rw [e, List.getLast?_reverse]
  cases hd' : l.reverse.dropWhile f with
  | nil => exact .inl rfl
  | cons c r =>
    refine .inr ⟨c, rfl, ?_⟩
    have := List.head?_dropWhile_not f l.reverse
    rw [hd'] at this
    simpa using this
theorem rst_last (l : List Nat) : (rstL l).getLast? ≠ some 47 := by
  rcases cut_last l (· == 47) with h | ⟨c, h, hc⟩
  · unfold rstL; rw [h]; simp
  · unfold rstL; rw [h]; intro e; cases e; simp at hc
theorem head_last (l : List Nat) : headL l = [] ∨ (headL l).getLast? = some 47 := by
  rcases cut_last l (· != 47) with h | ⟨c, h, hc⟩
  · exact .inl h
  · refine .inr ?_
    have : c = 47 := by simpa using hc
    subst this
    exact h
theorem head_unique {l a b : List Nat} (h : l = a ++ b) (hb : 47 ∉ b) (ha : a = [] ∨ a.getLast? = some 47) : headL l = a := by
  have e : lastL l = b.length := by
    unfold lastL
    rw [h, List.reverse_append, List.takeWhile_append_of_pos]
    · have : a.reverse.takeWhile (· != 47) = [] := by
        rcases ha with ha | ha
        · rw [ha]; rfl
        · rw [← List.head?_reverse] at ha
          cases h' : a.reverse with
          | nil => rfl
          | cons c r =>
            rw [h'] at ha
            cases ha
            rfl
      rw [this]; simp
    · intro c hc
      have := List.mem_reverse.mp hc
      simp only [bne_iff_ne, ne_eq]
      intro e; subst e; exact hb this
  unfold headL
  rw [e, h]
  simp
def splitL (l : List Nat) : List Nat := if headL l ≠ [] ∧ headL l ≠ List.replicate (headL l).length 47 then rstL (headL l) else headL l
def JP (p : List Nat) : Prop := p.getLast? ≠ some 47 ∨ p = List.replicate p.length 47
theorem anc_start (xs : List Nat) : aR [] (rstL xs) = aR [] xs ∧ JP (rstL xs) := by
  refine ⟨?_, .inl (rst_last xs)⟩
  obtain ⟨n, h⟩ := rst_app xs
  conv => rhs; rw [h]
  exact (aR_slashes n _ _).symm
theorem anc_end {p : List Nat} (h : rstL p = []) : aR [] p = [] := by
  obtain ⟨n, e⟩ := rst_app p
  rw [e, aR_slashes, h]; rfl
theorem anc_step {p : List Nat} (J : JP p) (h : rstL p ≠ []) : aR [] p = p :: aR [] (splitL p) ∧ JP (splitL p) := by
  have hne : p ≠ [] := by
    intro e; subst e; exact h rfl
  have hl : p.getLast? ≠ some 47 := by
    rcases J with J | J
    · exact J
    · exfalso
      apply h
      unfold rstL
      rw [J]
      simp
  have ht : tailL p ≠ [] := by
    intro e
    rcases head_last p with q | q
    · have := head_tail p
      rw [e, q] at this
      exact hne this
    · have := head_tail p
      rw [e, List.append_nil] at this
      rw [← this] at q
      exact hl q
  have e : aR [] p = p :: aR [] (headL p) := by
    conv => lhs; rw [head_tail p]
    rw [aR_piece _ _ _ ht (tail_no p) (head_last p), List.nil_append, ← head_tail p]
  rw [e]
  unfold splitL
  split
  · exact ⟨by rw [(anc_start (headL p)).1], (anc_start (headL p)).2⟩
  · rename_i q
    refine ⟨rfl, ?_⟩
    by_cases h0 : headL p = []
    · rw [h0]; exact .inl (by simp)
    · by_cases h1 : headL p = List.replicate (headL p).length 47
      · exact .inr h1
      · exact absurd ⟨h0, h1⟩ q
theorem split_le (p : List Nat) : (splitL p).length ≤ p.length := by
  have h1 : (headL p).length ≤ p.length := by unfold headL; simp
  have h2 : (rstL (headL p)).length ≤ (headL p).length := by unfold rstL; simp
  unfold splitL
  split <;> omega
theorem rst_le (p : List Nat) : (rstL p).length ≤ p.length := by unfold rstL; simp
theorem rstrip_eq (x : Str) : Txt.rstripChars x (Str.ofString "/") = St (rstL (cs x)) := by
  have e : (Str.ofString "/") = (⟨#[47]⟩ : Str) := by decide +kernel
  unfold Txt.rstripChars
  rw [PyProof.Rows.stripBy_eq, e]
  have e2 : (fun c => (#[47] : Array Nat).contains c) = (fun c : Nat => c == 47) := by
    funext c
    by_cases h : c = 47
    · subst h; simp
    · simp [h]
  show Builtin.Str.strSub x (stripLo (fun c => (#[47] : Array Nat).contains c) false x) (stripHi (fun c => (#[47] : Array Nat).contains c) true x (stripLo (fun c => (#[47] : Array Nat).contains c) false x)) = _
  rw [e2]
  unfold stripLo stripHi
  simp only [Bool.false_eq_true, if_false, if_true, List.drop_zero]
  rw [← St_cs (Builtin.Str.strSub x _ _)]
  congr 1
  show (Builtin.Str.strSub x _ _).cps.toList = _
  rw [StrLaws.strSub_toList]
  simp only [List.drop_zero, Nat.sub_zero]
  rw [rstL, len_cs]
theorem mul_eq (n : Nat) : Txt.mul (Str.ofString "/") (n : Int) = St (List.replicate n 47) := by
  have e : (Str.ofString "/") = (⟨#[47]⟩ : Str) := by decide +kernel
  rw [e]
  unfold Txt.mul
  by_cases h : (n : Int) < 1
  · rw [if_pos h]
    have : n = 0 := by omega
    subst this; rfl
  · rw [if_neg h]
    have key : ∀ (k : Nat) (a : Array Nat), ((List.replicate k (#[47] : Array Nat)).foldl (· ++ ·) a).toList = a.toList ++ List.replicate k 47 := by
      intro k
      induction k with
      | zero => intro a; simp
      | succ k ih => intro a; rw [List.replicate_succ, List.foldl_cons, ih, List.replicate_succ]; simp
    split
    · rename_i h2
      have : n = 1 := by
        simp [Str.length] at h2
        omega
      subst this; rfl
    · rw [← St_cs (Str.mk _)]
      congr 1
      show (List.foldl (· ++ ·) (#[] : Array Nat) (List.replicate ((n : Int)).toNat (#[47] : Array Nat))).toList = _
      rw [Int.toNat_natCast, key]
      simp
theorem drop_no {l : List Nat} {k : Nat} (h : ∀ i, k ≤ i → l[i]? ≠ some 47) : 47 ∉ l.drop k := by
  intro hm
  obtain ⟨i, hi⟩ := List.mem_iff_getElem?.mp hm
  rw [List.getElem?_drop] at hi
  exact h _ (by omega) hi
theorem at_iff (x : Str) (i : Nat) : StrLaws.At x (Str.ofString "/") x.length i ↔ (cs x)[i]? = some 47 := by
  have e : (Str.ofString "/") = (⟨#[47]⟩ : Str) := by decide +kernel
  rw [e]
  unfold StrLaws.At
  rw [StrLaws.subAt_eq]
  show i + 1 ≤ x.length ∧ (((cs x).drop i).take 1 == [47]) = true ↔ _
  rw [len_cs, beq_iff_eq, ← List.head?_drop]
  cases h : (cs x).drop i with
  | nil => simp
  | cons c r =>
    have : ((cs x).drop i).length = r.length + 1 := by rw [h]; rfl
    rw [List.length_drop] at this
    have h5 : i + 1 ≤ (cs x).length := by omega
    have h6 : i + 1 ≤ x.cps.size := by rw [← len_cs] at h5; exact h5
    simp [h6]
theorem rfind_head (x : Str) : Txt.slice x none (some (Txt.rfind x (Str.ofString "/") + 1)) = St (headL (cs x)) := by
  unfold Txt.rfind
  rcases StrLaws.last_spec x (Str.ofString "/") with ⟨h, hn⟩ | ⟨i, h, ha, hn⟩
  · rw [h]
    show Txt.slice x none (some ((0 : Nat) : Int)) = _
    rw [slice_to]
    congr 1
    refine (head_unique (l := cs x) (a := []) (b := cs x) rfl ?_ (.inl rfl)).symm
    have := drop_no (l := cs x) (k := 0) fun i _ hi => hn i ((at_iff x i).mpr hi)
    simpa using this
  · rw [h]
    show Txt.slice x none (some ((i + 1 : Nat) : Int)) = _
    rw [slice_to]
    congr 1
    have hi := (at_iff x i).mp ha
    refine (head_unique (l := cs x) (List.take_append_drop (i + 1) _).symm ?_ (.inr ?_)).symm
    · exact drop_no fun j hj q => hn j (by omega) ((at_iff x j).mpr q)
    · rw [List.take_add_one, hi]; simp
theorem splitH_eq (x : Str) : splitH x = St (splitL (cs x)) := by
  unfold splitH splitL
  rw [rfind_head, rstrip_eq, len_St, mul_eq, cs_St]
  have e : (St (headL (cs x)) != St (List.replicate (headL (cs x)).length 47)) = true ↔ headL (cs x) ≠ List.replicate (headL (cs x)).length 47 := by
    rw [bne_iff_ne]
    constructor
    · intro h q; exact h (congrArg St q)
    · intro h q; exact h (by have := congrArg cs q; rwa [cs_St, cs_St] at this)
  have e2 : (headL (cs x)).length ≠ 0 ↔ headL (cs x) ≠ [] := by simp
  by_cases h : headL (cs x) ≠ [] ∧ headL (cs x) ≠ List.replicate (headL (cs x)).length 47
  · rw [if_pos h, if_pos ⟨e2.mpr h.1, e.mpr h.2⟩]
  · rw [if_neg h, if_neg fun q => h ⟨e2.mp q.1, e.mp q.2⟩]
end Mine
end
section -- Sq
example : True := by
  w_top off
  k_with_none
  trivial
open PySem PySem.W PyProof.Rows PySem.Calls
namespace Mine
local macro_rules | `(tactic| walk_at $s:str) => `(tactic| k_extra $s)
example : Mine.rwS = Mine.rwS ∧ hd.heap_39 = hd.heap_39 := by k_fill; exact ⟨rfl, rfl⟩

section
variable {prog : Program} {w : World} {A : Around} {s : Shared} {h₀ : Heap} {L : Addr} {m : Str → Option Value} {news : List (Addr × Obj)} {K : Frag} {p : Program} {loose : List Str} {mean : ExcName → Option Value} {mg mb : Str → Option Value}
  {R : Result → Shared → Prop} {name qual : Str} {params : Arguments} {body : List Stmt} {scope : Scope} {dV kV doc pm cdv ct oc : Value} {an od : Option Addr} {osl : Array (Option Value)} {f : Addr} {args : Args} {binds : List (Str × Value)}
theorem my_ground (F : Fr h₀ L s.heap m) (N : News h₀ L s.heap news) :
    Fr h₀ L (hideAll s.heap (news.map (·.1))) m ∧ h₀.StaysIn (hideAll s.heap (news.map (·.1))) ∧ ∀ v s', LeaveK h₀ L m (hideAll s.heap (news.map (·.1))) R v s' → R (.ok (.ret v)) s' := by
  have nm : ∀ b o, h₀.get? b = some o → b ∉ news.map (·.1) := fun b o e q => by
    obtain ⟨p, hp, rfl⟩ := List.mem_map.mp q
    rw [(N p hp).2.2] at e; cases e
  have st : h₀.StaysIn (hideAll s.heap (news.map (·.1))) := fun b o e => hideAll_get _ (F.keep b o e) (nm b o e)
  obtain ⟨oL, es, ep, hL, hLd, hLk, hLf⟩ := F.ns
  have nL : L ∉ news.map (·.1) := fun q => by
    obtain ⟨p, hp, e⟩ := List.mem_map.mp q
    exact (N p hp).2.1 e
  have hLg := hideAll_get (news.map (·.1)) hL nL
  refine ⟨⟨⟨oL, es, ep, hLg, hLd, hLk, hLf⟩, st, F.above⟩, st, fun v s' hl => ?_⟩
  obtain ⟨L', m', news', F', N', k⟩ := hl
  refine k ⟨⟨oL, es, ep, F'.keep L oL hLg, hLd, hLk, hLf⟩, fun b o e => F'.keep b o (st b o e), F.above⟩ fun p hp => ⟨(N' p hp).1, fun q => ?_, ?_⟩
  · have := (N' p hp).2.2; rw [q, hLg] at this; cases this
  · cases q : h₀.get? p.1 with
    | none => rfl
    | some o => have := (N' p hp).2.2; rw [st _ _ q] at this; cases this
theorem my_def (F : Fr h₀ L s.heap m) (X₀ : K.In h₀) (N : News h₀ L s.heap news) (T : Top p loose mean mg mb h₀)
    (ho : K.lookup f = some ⟨oc, od, .func (fnOf name qual params body scope dV kV doc pm an cdv ct), osl⟩) (hcd : codeIn K cdv qual = true) (hroom : A.depth < recursionLimit)
    (hbind : BindsTo s (fnOf name qual params body scope dV kV doc pm an cdv ct) args binds) (hloc : ∀ y ∈ binds, scope.names.lookup y.1 = some .local)
    (h : ∀ g L' h₁, Fr h₀ L g m → Fr g L' h₁ (fun y => binds.reverse.lookup y) → News g L' h₁ news → K.In g → Top p loose mean mg mb g →
      wpAny (model prog w) (A.deeper (envOf qual scope L' f cdv)) (execs body (envOf qual scope L' f cdv))
        (fun fl s' => LeaveK h₀ L m g R (match fl with | .ret v => v | _ => .none) s')
        (fun _ _ => False)
        { s with heap := h₁, toks := s.toks + binds.length })
    (hco : scope.isCoroutine = false) (hgen : scope.isGenerator = false) (hk : scope.kind = .function)
    (hcell : ∀ x ∈ scope.names, x.2 ≠ .cell) : codeAny (model prog w) A (.call (.ref f) args) R s := by
  obtain ⟨FG, st, lv⟩ := my_ground (R := R) F N
  have X := X₀.keeps F.keep
  refine codeAny_call_def (fd := fnOf name qual params body scope dV kV doc pm an cdv ct) (body := body) (binds := binds) hroom (X _ _ ho) rfl (T.nolimit.keeps F.keep) (codeRec_of X hcd) rfl hbind hcell hloc (fun h₁ hns hk₁ => ?_) hco hgen hk
  exact wpAny_mono (h _ s.heap.objs.size h₁ FG ⟨hns, fun b o e => hk₁ b o (of_hideAll _ e), Nat.le_of_eq (hideAll_size _ _)⟩
    (fun p hp => ⟨hk₁ _ _ (N p hp).1, Nat.ne_of_lt (Heap.lt_size (N p hp).1), hideAll_none _ (List.mem_map_of_mem hp)⟩) (X₀.keeps st) (T.keeps st)) (fun fl s' hl => lv _ _ hl) fun _ _ y => y.elim
end
example : True := by
  k_with "call ref" => ((refine wpAny_call ?_; (k_dflt (refine' my_def ?k2 ?k3 ?k4 ?k5 ?k6 ?k7 ?k8 ?k9 ?kB ?_ ?c2 ?c3 ?c4 ?c5; (case k2 => k_asm); (case k3 => k_asm); (case k4 => k_asm); (case k5 => k_asm); (case k6 => k_is); (case k7 => k_is); (case k8 => ktr_room); (case k9 => exact BindsTo.of_eq rfl); (case c5 => decide); (case kB => exact locs rfl); (case c2 => exact rfl); (case c3 => exact rfl); (case c4 => exact rfl))); intro g' L' h' FG' F' N' X' T'; (try dsimp only); (try k_fold)))
  trivial
set_option maxHeartbeats 1200000 in
theorem split_specN {w : World} {mean : ExcName → Option Value} {mg mb : Str → Option Value} {h₀ : Heap} {outer : List Env} {L : Addr} {m : Str → Option Value} {s : Shared} {news : List (Addr × Obj)} {Q E : Value → Shared → Prop}
    {gd : Option (List Code)} {cn : Str} {cs' : Scope} {a : Addr} {ccd : Value} {cl : List (Str × Addr)} {p : Program} {loose : List Str}
    (F : Fr h₀ L s.heap m) (KX : (hd.heap_39 w.params).In h₀) (N : News h₀ L s.heap news) (T : Top p loose mean mg mb h₀) (hk : cs'.kind = .function) (x : Str) (t : Tok) (hx : x.length ≤ 40)
    (ret : ∀ r y z t1 t2 n tk h', y = splitH x → Fr h₀ L h' m → News h₀ L h' ((r, ({ cls := .type "tuple", data := .seq #[.str y t1, .str z t2] n } : Obj)) :: news) → Q (.ref r) { s with heap := h', toks := tk }) :
    wpAny (model Mine.rwS.row.prog w) (ktrTop 570 220 gd cn cs' L a ccd cl outer) (call (.ref 103) [.str x t]) Q E s := by
  walk_at "call ref"
  k_steps
  all_goals
    rename Fr h₀ L _ m => F2
    rename News h₀ L _ _ => N2
    refine ret _ _ _ _ _ _ _ _ ?_ F2 (news_sub N2 (by kst_allIn))
    unfold splitH
  · rw [if_pos ⟨by omega, by with_reducible assumption⟩]
  · rw [if_neg]
    rintro ⟨_, h⟩
    rw [(by with_reducible assumption : (Txt.slice x none (some (Txt.rfind x (Str.ofString "/") + 1)) != Txt.mul (Str.ofString "/") ((Txt.slice x none (some (Txt.rfind x (Str.ofString "/") + 1))).length : Int)) = false)] at h
    cases h
  · rw [if_neg]
    rintro ⟨h, _⟩
    omega
end Mine
end
section -- Ga
example : True := by
  w_top off
  k_with_none
  trivial
open PySem PySem.W PyProof.Rows PySem.Calls
open Sem (wp)
namespace Mine
section
variable {M : Model} {A : Around} {R : GenEnd} {Y : Protocol} {n : Nat} {s₀ : Shared} {c : Code} {fs : List Frame} {s : Shared} {env : Env}
  {K : Flow → Sem Fin} {H : Value → Sem Fin} {gd : Bool → Bool} {lv : List Value → List Value}
@[reducible] def Above (A : Around) (out : List Env) : Around := { A with frames := some out }
theorem woken_above {Γ : Ctx} (h : Γ.Woken A) : Γ.Woken (Above A (envsOf Γ.below)) :=
  ⟨⟨h.1.1, h.1.2.1, fun l hl => Option.some.inj hl, h.1.2.2.2⟩, h.2⟩
theorem seg_wrapF {α : Type} {m : Sem α} {K : α → Sem Fin} {H : Value → Sem Fin} {gd lv}
    (h : ∀ out, wpAny M ((Above A out).over c fs) m (fun a s' => Seg M A R Y n s₀ c (K a) fs s') (fun x s' => Seg M A R Y n s₀ c (H x) fs s') s) :
    Seg M A R Y n s₀ c (m.wrap K H gd lv) fs s := by
  rw [seg_iff]
  rintro Γ p rfl hΓ
  exact runs_wrap_of_wp K H gd lv m (h _ (Γ.over fs) p ((woken_above hΓ).over fs)) (fun a p' s' h' => seg_iff.mp h' Γ p' rfl hΓ)
    (fun x p' s' h' => seg_iff.mp h' Γ p' rfl hΓ)
theorem seg_YieldF {e : Expr} {ypos pos : Pos} (hfs : splitAtGen fs = none) (hgd : gd false = false) (hfg : fs.any Frame.guarded = false)
    (h : ∀ out, wpAny M ((Above A out).over c fs) (eval e env) (fun v s' => ∀ kap : Resume → Shared → Prop,
        (∀ x s'', (match x with | .ref _ => False | _ => Seg M A R Y n s'' c (K .next) fs s'') → kap (.send x) s'') → Y n s₀ v s' kap)
      (fun _ _ => False) s) (hco : env.scope.isCoroutine = false) (hi : interactive env = false) :
    Seg M A R Y (n + 1) s₀ c ((exec (.Expr (.Yield (some e) ypos) pos) env).wrap K H gd lv) fs s := by
  rw [exec_Expr env _ pos hi rfl]
  show Seg M A R Y (n + 1) s₀ c (.at pos fun _ => ((eval e env >>= fun v => (standAt ypos >>= fun _ => yieldOut env v)) >>= fun x =>
    dropValue (.Yield (some e) ypos) pos x).wrap K H gd lv) fs s
  have hy : ∀ v, yieldOut env v = yieldValue v := fun v => by simp only [yieldOut, hco, Bool.false_eq_true, if_false]
  simp only [hy]
  refine seg_at ?_
  rw [Sem.bind_eq_wrap', Sem.bind_eq_wrap', Sem.wrap_wrap, Sem.wrap_wrap]
  refine seg_wrapF fun out => (wpAny_mono (h out) (fun v s' h' => ?_) fun _ _ x => x.elim)
  refine seg_at (seg_yield hfs hgd hfg ?_)
  refine h' _ fun x s'' hx => ?_
  cases x <;> first | exact hx | exact hx.elim
end
section
variable {prog : Program} {w : World} {A : Around} {R : GenEnd} {Y : Protocol} {n : Nat} {s₀ : Shared} {fs : List Frame} {s : Shared} {env : Env}
theorem seg_loopF {test : Expr} {body orelse : List Stmt}
    (h : ∀ out, wpAny (model prog w) ((Above A out).over (.whileLoop test body orelse env) fs) (isTrue test env (eval test env)) (fun b s' =>
        if b = true then
          Seg (model prog w) A R Y n s₀ (.whileLoop test body orelse env) ((execs body env).wrap (fun f => match f with
            | .next | .cont => .pure (.again (.whileLoop test body orelse env))
            | .brk => .pure (.done .next)
            | .ret v => .pure (.done (.ret v))) (fun e => (do noteFrame e env; theTreesLotGoes e : Sem Unit).wrap (fun _ => .raise e) .raise id id) id id) fs s'
        else Seg (model prog w) A R Y n s₀ (.whileLoop test body orelse env) ((execs orelse env).wrap (fun f => .pure (.done f)) (fun e => (do noteFrame e env; theTreesLotGoes e : Sem Unit).wrap (fun _ => .raise e) .raise id id) id id) fs s')
      (fun _ _ => False) s) :
    Seg (model prog w) A R Y n s₀ (.whileLoop test body orelse env) ((model prog w).den (.whileLoop test body orelse env)) fs s := by
  show Seg _ A R Y n s₀ _ ((whileTurn test body orelse env).onRaise (fun x => do noteFrame x env; theTreesLotGoes x)) fs s
  unfold whileTurn
  rw [Sem.onRaise_eq_wrap, Sem.bind_eq_wrap', Sem.wrap_wrap]
  refine seg_wrapF fun out => (wpAny_mono (h out) (fun b s' hb => ?_) fun x s' hx => hx.elim)
  cases b with
  | true =>
    rw [if_pos rfl] at hb
    show Seg _ A R Y n s₀ _ (Sem.wrap _ _ _ _ (if true = true then _ else _)) fs s'
    rw [if_pos rfl, Sem.bind_eq_wrap', Sem.wrap_wrap]
    rw [Sem.wrap_congr (execs body env) _ _ (K' := fun f => match f with
          | .next | .cont => .pure (.again (.whileLoop test body orelse env))
          | .brk => .pure (.done .next)
          | .ret v => .pure (.done (.ret v))) (H' := (fun e => (do noteFrame e env; theTreesLotGoes e : Sem Unit).wrap (fun _ => .raise e) .raise id id))
      (fun f => by cases f <;> rfl)
      (fun e => by first | exact Sem.bind_eq_wrap _ _ | (show (do noteFrame e env; theTreesLotGoes e : Sem Unit).bind (fun _ => .raise e) = _; rw [Sem.bind_eq_wrap]))]
    exact hb
  | false =>
    rw [if_neg Bool.false_ne_true] at hb
    show Seg _ A R Y n s₀ _ (Sem.wrap _ _ _ _ (if false = true then _ else _)) fs s'
    rw [if_neg Bool.false_ne_true, Sem.bind_eq_wrap', Sem.wrap_wrap]
    rw [Sem.wrap_congr (execs orelse env) _ _ (K' := fun f => (.pure (.done f) : Sem Fin)) (H' := (fun e => (do noteFrame e env; theTreesLotGoes e : Sem Unit).wrap (fun _ => .raise e) .raise id id))
      (fun f => by rfl)
      (fun e => by first | exact Sem.bind_eq_wrap _ _ | (show (do noteFrame e env; theTreesLotGoes e : Sem Unit).bind (fun _ => .raise e) = _; rw [Sem.bind_eq_wrap]))]
    exact hb

theorem fuel_split {N j : Nat} (hj : j < N) : ∃ m, N - j = m + 1 ∧ N - 1 - (m + 1 - 1) = j ∧ N - (j + 1) = m := by
  obtain ⟨d, rfl⟩ := Nat.exists_eq_add_of_lt hj
  refine ⟨d, ?_, ?_, ?_⟩
  · rw [Nat.add_assoc, Nat.add_sub_cancel_left]
  · rw [Nat.add_sub_cancel, Nat.add_sub_cancel, Nat.add_sub_cancel]
  · rw [Nat.add_right_comm, Nat.add_sub_cancel_left]
/-- a generator of a def, drained text by text: what each wake gives, and that all but its own frame stays -/
def fY (C : Addr) (fp : List Addr) (V : Nat → Value → Prop) (N : Nat) : Protocol := fun n s₀ v s kap =>
  V (N - 1 - n) v ∧ GenSince C [] s₀ s ∧ (∃ o, s.heap.get? C = some o) ∧ ∀ s'' : Shared, (∀ b ∈ C :: fp, ∀ o, s.heap.get? b = some o → s''.heap.get? b = some o) → kap (.send .none) s''
def fR (C : Addr) : GenEnd := fun n s₀ r s₁ => r = .ok (.ret .none) ∧ (n = 0 ∧ GenSince C [] s₀ s₁)
def FAt (prog : Program) (w : World) (A : Around) (a : Addr) (g : Nat) (C : Addr) (fp : List Addr) (V : Nat → Value → Prop) (N : Nat) (j : Nat) (s : Shared) : Prop :=
  s.heap.IsGen a g ∧ s.heap.NoLimit ∧ ∃ gs, s.gens[g]? = some gs ∧ ∀ s'' : Shared, (∀ b ∈ C :: fp, ∀ o, s.heap.get? b = some o → s''.heap.get? b = some o) →
    gs.Goes (model prog w) A.in1 (fR C) (fY C fp V N) (N - j) (.send .none) s''

theorem next_genQ {E : Value → Shared → Prop} {a : Addr} {g n : Nat} {gs : GenState} {P : Nat → Shared → Shared → Prop} {Y : Protocol} {Q : Option Value → Shared → Prop} (hh : A.handled = none)
    (hl : s.heap.NoLimit) (hroom : A.depth < recursionLimit)
    (hg : s.heap.IsGen a g) (hgs : s.gens[g]? = some gs)
    (hgo : gs.Goes (model prog w) A.in1 (fun n s₀ r s₁ => r = .ok (.ret .none) ∧ P n s₀ s₁) Y n (.send .none) (s.setGen g .running))
    (hY : ∀ v s₁ gs', gs'.bare = true → Y (n - 1) (s.setGen g .running) v s₁ (fun r' s'' => match n with
        | 0 => False
        | m + 1 => gs'.Goes (model prog w) A.in1 (fun n s₀ r s₁ => r = .ok (.ret .none) ∧ P n s₀ s₁) Y m r' s'') → Q (some v) (s₁.setGen g gs'))
    (hP : ∀ s₁, P n (s.setGen g .running) s₁ → ∀ h', (∀ b o, s₁.heap.get? b = some o → h'.get? b = some o) → Q none { s₁.setGen g .finished with heap := h' }) :
    wpAny (model prog w) A (pyNext (.ref a)) Q E s := by
  unfold pyNext
  refine wpAny_bind (wpAny_attempt (wpAny_callSpecial?_slot (name := Str.ofString "__next__") hg.typeIs slot_gen_next
    (wpAny_call_entry slot_gen_next hg.typeIs entry_gen_next ?_ (args_gen_next _))))
  show wpAny _ A.in1 (Builtin.Generator.genWake (.ref a) (.send .none)) _ _ s
  unfold Builtin.Generator.genWake
  refine wpAny_bind (wpAny_holding (wpAny_genNumber hg (wpAny_bind (wpAny_genState hgs ?_))))
  cases gs with
  | running => exact hgo.elim
  | finished => exact hgo.elim
  | _ =>
    refine wpAny_bind (wpAny_roomToWake hl hroom ?_)
    show wpAny _ A.in1 (.resume g (.send .none) [] _) _ _ s
    refine wpAny_resumeQ hgs hgo (fun x s₁ hx => ?_) (fun v s₁ gs' hb hv => ?_)
    · obtain ⟨rfl, hp⟩ := hx
      show wpAny _ A.in1 (newExc (.type "StopIteration") [] >>= _) _ _ _
      refine wpAny_bind ?_
      simp only [newExc, newTuple]
      refine wpAny_bind (wpAny_newObj_type ?_ (by size_fits))
      refine wpAny_bind (m := firstArgMember _ _) (wpAny_of_eq (a := Value.none) (by first | rfl | (simp only [firstArgMember]; rfl)) ?_)
      refine wpAny_newObj_type ?_ (by size_fits)
      simp only [raiseNew]
      refine wpAny_bind (wpAny_bind (wpAny_handled ?_))
      first | rw [show A.in1.handled = none from hh] | rw [hh]
      refine wpAny_throw ?_
      refine wpAny_bind (wpAny_isInstance (T := "StopIteration") (b := true) ⟨_, Heap.get?_push_size _ rfl, rfl⟩ isSubtype_stop ?_)
      exact wpAny_pure (hP s₁ hp _ fun b o hb => Heap.get?_push_of_some _ (Heap.get?_push_of_some _ hb))
    · exact wpAny_pure ⟨v, rfl, wpAny_pure (hY v s₁ gs' hb hv)⟩

theorem walks_gen (hh : A.handled = none) (a : Addr) (g : Nat) (C : Addr) (fp : List Addr) (V : Nat → Value → Prop) (N : Nat) (haC : C < a)
    (hroom : A.depth < recursionLimit) (hcs : cStatics < C) (hcf : cStatics ∈ fp) :
    WalksS prog w A a (a :: C :: fp) [C] (GenOnlyQ g) N V (FAt prog w A a g C fp V N) where
  sub := fun b hb => by
    cases hb with
    | head => simp
    | tail _ hb => cases hb
  grefl := fun _ => .inl rfl
  gtrans := fun _ _ _ x y => x.trans y
  frame := fun j s h' tk st _ hk =>
    ⟨let ⟨o, nm, qn, ho, r⟩ := st.1; ⟨o, nm, qn, hk a (List.mem_cons_self ..) o ho, r⟩,
     (let ⟨mc, hns, hnn⟩ := st.2.1; ⟨mc, hns.at' fun o e => hk cStatics (List.mem_cons_of_mem _ (List.mem_cons_of_mem _ hcf)) o e, hnn⟩),
     let ⟨gs, hgs, hgo⟩ := st.2.2; ⟨gs, hgs, fun s'' hal => hgo s'' fun b hb o e => hal b hb o (hk b (List.mem_cons_of_mem _ hb) o e)⟩⟩
  item := fun j s Q E hj st hQ => by
    obtain ⟨hg, hl, gs, hgs, hgo⟩ := st
    obtain ⟨m, hm, hidx, hnx⟩ := fuel_split hj
    rw [hm] at hgo
    refine wpAny_with_toks (Nat.le_refl s.toks) ?_
    refine next_genQ (P := fun n s₀ s₁ => n = 0 ∧ GenSince C [] s₀ s₁) hh hl hroom hg hgs (hgo _ fun _ _ _ e => e) (fun v s₁ gs' hb hv => ?_) (fun s₁ hp h' hk => ?_)
    · obtain ⟨hF, ⟨h₁, tk₁, rfl, hk₁⟩, hex, hkap⟩ := hv
      rw [hidx] at hF
      have hne : a ≠ C := Nat.ne_of_gt haC
      intro htk
      refine hQ v _ hF ⟨let ⟨o, nm, qn, ho, r⟩ := hg; ⟨o, nm, qn, hk₁ a o hne (by simp) ho, r⟩, (let ⟨mc, hns, hnn⟩ := hl; ⟨mc, hns.at' fun o e => hk₁ cStatics o (Nat.ne_of_lt hcs) (by simp) e, hnn⟩), gs', setGen_self (gs := .running) (setGen_self hgs), fun s'' hal => ?_⟩
        ⟨fun b o hb e => hk₁ b o (fun h => hb (h ▸ List.mem_cons_self ..)) (by simp) e, GenOnlyQ.of ((GenOnly.setGen s g .running).trans (GenOnly.setGen _ g gs')) (setGen_self (gs := .running) (setGen_self hgs)) hb, rfl, rfl, htk⟩
      rw [hnx]
      exact hkap s'' hal
    · exact absurd hp.1 (Nat.succ_ne_zero m)
  done := fun s Q E st hQ => by
    obtain ⟨hg, hl, gs, hgs, hgo⟩ := st
    rw [Nat.sub_self] at hgo
    refine wpAny_with_toks (Nat.le_refl s.toks) ?_
    refine next_genQ (P := fun n s₀ s₁ => n = 0 ∧ GenSince C [] s₀ s₁) hh hl hroom hg hgs (hgo _ fun _ _ _ e => e) (fun v s₁ gs' hb hv => ?_) (fun s₁ hp h' hk => ?_)
    · obtain ⟨_, _, _, hkap⟩ := hv
      exact False.elim (hkap s₁ fun _ _ _ e => e)
    · obtain ⟨_, h₁, tk₁, rfl, hk₁⟩ := hp
      intro htk
      exact hQ _ ⟨fun b o hb e => hk b o (hk₁ b o (fun h => hb (h ▸ List.mem_cons_self ..)) (by simp) e), GenOnlyQ.of ((GenOnly.setGen s g .running).trans (GenOnly.setGen _ g .finished)) (setGen_self (gs := .running) (setGen_self hgs)) rfl, rfl, rfl, htk⟩
  self := fun _ _ _ _ st hQ => wpAny_pyIter_gen st.1 hQ
end
end Mine
end
section -- Gb
example : True := by
  w_top off
  k_with_none
  trivial
open PySem PySem.W PyProof.Rows PySem.Calls
open Sem (wp)
namespace Mine
def tV (l : List (List Nat)) (i : Nat) (v : Value) : Prop := ∃ t, v = .str (St (l.getD i [])) t
def GI (hb : Heap) (C : Addr) (p : List Nat) (h : Heap) : Prop := ∃ m t, Fr hb C h m ∧ m (Str.ofString "path") = some (.str (St p) t)
def Kept (C : Addr) (h h' : Heap) : Prop := ∀ b o, b ≠ C → h.get? b = some o → h'.get? b = some o
def allN (hb : Heap) (C : Addr) (h : Heap) : List (Addr × Obj) :=
  (List.range h.objs.size).filterMap fun b => match h.get? b, hb.get? b with
    | some o, none => if b = C then none else some (b, o)
    | _, _ => none
theorem in_allN {hb h : Heap} {C b : Addr} {o : Obj} : (b, o) ∈ allN hb C h ↔ h.get? b = some o ∧ b ≠ C ∧ hb.get? b = none := by
  unfold allN
  rw [List.mem_filterMap]
  constructor
  · rintro ⟨x, hx, e⟩
    split at e
    · rename_i o' h1 h2
      split at e
      · cases e
      · rename_i hne
        cases e
        exact ⟨h1, hne, h2⟩
    · cases e
  · rintro ⟨h1, h2, h3⟩
    refine ⟨b, List.mem_range.mpr (Heap.lt_size h1), ?_⟩
    rw [h1, h3]
    simp [h2]
theorem allN_news (hb : Heap) (C : Addr) (h : Heap) : News hb C h (allN hb C h) := fun p hp => by
  obtain ⟨b, o⟩ := p
  exact in_allN.mp hp
theorem kept_of {hb h h' : Heap} {C : Addr} {m : Str → Option Value} {own : List (Addr × Obj)} (F : Fr hb C h' m) (Fh : ∀ b o, hb.get? b = some o → h.get? b = some o) (N : News hb C h' own) (hs : ∀ p ∈ allN hb C h, p ∈ own) : Kept C h h' := by
  intro b o hb' e
  cases q : hb.get? b with
  | none => exact (N _ (hs _ (in_allN.mpr ⟨e, hb', q⟩))).1
  | some o' =>
    have := Fh b o' q
    rw [this] at e
    cases e
    exact F.keep b _ q
theorem since_kept {C : Addr} {s₀ s : Shared} (x : GenSince C [] s₀ s) {h' : Heap} {tk : Nat} (k : Kept C s.heap h') : GenSince C [] s₀ { s with heap := h', toks := tk } :=
  x.step fun b o hC _ e => k b o hC e
def liveL (h : Heap) : List Addr := (List.range h.objs.size).filter fun b => (h.get? b).isSome
theorem in_liveL {h : Heap} {b : Addr} {o : Obj} (e : h.get? b = some o) : b ∈ liveL h := List.mem_filter.mpr ⟨List.mem_range.mpr (Heap.lt_size e), by rw [e]; rfl⟩
theorem of_liveL {h : Heap} {b : Addr} (e : b ∈ liveL h) : ∃ o, h.get? b = some o := Option.isSome_iff_exists.mp (List.mem_filter.mp e).2
theorem gi_alive {hb : Heap} {C : Addr} {p : List Nat} {h h'' : Heap} (g : GI hb C p h) (hal : ∀ b ∈ C :: liveL hb, ∀ o, h.get? b = some o → h''.get? b = some o) : GI hb C p h'' := by
  obtain ⟨m, t, F, hm⟩ := g
  obtain ⟨oL, es, ep, hL, r⟩ := F.ns
  exact ⟨m, t, ⟨⟨oL, es, ep, hal C (List.mem_cons_self ..) _ hL, r⟩, fun b o e => hal b (List.mem_cons_of_mem _ (in_liveL e)) o (F.keep b o e), F.above⟩, hm⟩

section
variable {prog : Program} {w : World} {A : Around} {fs : List Frame} {env : Env} {hb : Heap} {C : Addr} {l : List (List Nat)} {test e : Expr} {st2 : Stmt} {ypos pos : Pos}
theorem gen_loop (hsp : splitAtGen fs = none) (hfg : fs.any Frame.guarded = false) (hco : env.scope.isCoroutine = false) (hi : interactive env = false)
    (Ht : ∀ out p s (Q : Bool → Shared → Prop), GI hb C p s.heap → p.length ≤ 40 → (∀ h' tk, GI hb C p h' → Kept C s.heap h' → Q (decide (rstL p ≠ [])) { s with heap := h', toks := tk }) →
      wpAny (model prog w) ((Above A out).over (.whileLoop test [.Expr (.Yield (some e) ypos) pos, st2] [] env) fs) (isTrue test env (eval test env)) Q (fun _ _ => False) s)
    (He : ∀ out p s (Q : Value → Shared → Prop), GI hb C p s.heap → p.length ≤ 40 → (∀ t h' tk, GI hb C p h' → Kept C s.heap h' → Q (.str (St p) t) { s with heap := h', toks := tk }) →
      wpAny (model prog w) ((Above A out).over (.whileLoop test [.Expr (.Yield (some e) ypos) pos, st2] [] env) fs) (eval e env) Q (fun _ _ => False) s)
    (Hs : ∀ out p s (Q : Flow → Shared → Prop), GI hb C p s.heap → p.length ≤ 40 → (∀ h' tk, GI hb C (splitL p) h' → Kept C s.heap h' → Q .next { s with heap := h', toks := tk }) →
      wpAny (model prog w) ((Above A out).over (.whileLoop test [.Expr (.Yield (some e) ypos) pos, st2] [] env) fs) (exec st2 env) Q (fun _ _ => False) s)
    (Hend : ∀ s₀ s, GenSince C [] s₀ s → Seg (model prog w) A (fR C) (fY C (liveL hb) (tV l) l.length) 0 s₀ (.whileLoop test [.Expr (.Yield (some e) ypos) pos, st2] [] env) (leafOf (.ok .next)) fs s) :
    ∀ n p s s₀, JP p → p.length ≤ 40 → n = (aR [] p).length → n ≤ l.length → l.drop (l.length - n) = aR [] p → GI hb C p s.heap → GenSince C [] s₀ s →
      Seg (model prog w) A (fR C) (fY C (liveL hb) (tV l) l.length) n s₀ (.whileLoop test [.Expr (.Yield (some e) ypos) pos, st2] [] env) ((model prog w).den (.whileLoop test [.Expr (.Yield (some e) ypos) pos, st2] [] env)) fs s := by
  intro n
  induction n with
  | zero =>
    intro p s s₀ J hp hn hle hd g gs
    refine seg_loopF fun out => Ht out p s _ g hp fun h' tk g' k => ?_
    have : rstL p = [] := by
      apply Classical.byContradiction
      intro h
      rw [(anc_step J h).1] at hn
      simp at hn
    rw [this]
    rw [if_neg (by simp)]
    exact seg_execs_nil (Hend _ _ (since_kept gs k))
  | succ n ih =>
    intro p s s₀ J hp hn hle hd g gs
    refine seg_loopF fun out => Ht out p s _ g hp fun h' tk g' k => ?_
    have hr : rstL p ≠ [] := by
      intro h
      rw [anc_end h] at hn
      simp at hn
    obtain ⟨ha, J'⟩ := anc_step J hr
    rw [if_pos (by simpa using hr)]
    refine seg_execs_cons (seg_YieldF hsp rfl hfg (fun out => ?_) hco hi)
    refine He out p _ _ g' hp fun t h2 tk2 g2 k2 => ?_
    intro kap hk
    have gs2 := since_kept (tk := tk2) (since_kept (tk := tk) gs k) k2
    refine ⟨⟨t, ?_⟩, gs2, (let ⟨_, _, F, _⟩ := g2; let ⟨o, _, _, e, _⟩ := F.ns; ⟨o, e⟩), fun s'' hal => hk .none s'' ?_⟩
    · congr 2
      have e1 : l.length - 1 - n = l.length - (n + 1) := by omega
      rw [e1, List.getD_eq_getElem?_getD, ← Nat.add_zero (l.length - (n + 1)), ← List.getElem?_drop, hd, ha]
      rfl
    · show Seg _ _ _ _ _ _ _ ((execs [st2] env).wrap _ _ _ _) fs s''
      refine seg_execs_cons (seg_wrapF fun out => ?_)
      refine wpAny_mono (Hs out p s'' _ (gi_alive g2 hal) hp fun h3 tk3 g3 k3 => ?_) (fun _ _ x => x) fun _ _ x => x.elim
      refine seg_execs_nil (seg_again rfl ?_)
      rw [ha] at hn hd
      refine ih (splitL p) _ _ J' (Nat.le_trans (split_le p) hp) (by simpa using hn) (by omega) ?_ g3 ?_
      · have e1 : l.length - n = l.length - (n + 1) + 1 := by omega
        rw [e1, ← List.drop_drop, hd]
        rfl
      · exact since_kept (GenSince.refl C [] s'') k3
end
end Mine
end
section -- An
example : True := by
  w_top off
  k_with_none
  trivial
open PySem PySem.W PyProof.Rows PySem.Calls
namespace Mine
local macro_rules | `(tactic| walk_at $s:str) => `(tactic| k_extra $s)
example : Mine.rwS = Mine.rwS ∧ hd.heap_39 = hd.heap_39 := by k_fill; exact ⟨rfl, rfl⟩

def AG : Around := { handled := none, depth := 420, frames := none, guards := none, units := 130 }
section
variable {prog : Program} {w : World} {A : Around} {E : Value → Shared → Prop} {s : Shared} {h₀ : Heap} {L : Addr} {m : Str → Option Value} {K : Frag} {p : Program} {loose : List Str} {mean : ExcName → Option Value} {mg mb : Str → Option Value}
  {name qual : Str} {params : Arguments} {body : List Stmt} {scope : Scope} {dV kV doc pm cdv ct oc : Value} {an od : Option Addr} {osl : Array (Option Value)} {f : Addr} {args : List Value} {binds : List (Str × Value)} {Q : Value → Shared → Prop}
theorem anc_made (F : Fr h₀ L s.heap m) (X₀ : K.In h₀) (T : Top p loose mean mg mb h₀)
    (ho : K.lookup f = some ⟨oc, od, .func (fnOf name qual params body scope dV kV doc pm an cdv ct), osl⟩) (hcd : codeIn K cdv qual = true) (hroom : A.depth < recursionLimit)
    (hbind : bindArgs (fnOf name qual params body scope dV kV doc pm an cdv ct) ⟨args, []⟩ = pure binds) (hloc : ∀ y ∈ binds, scope.names.lookup y.1 = some .local)
    (h : ∀ h' tk gs, (∀ b o, s.heap.get? b = some o → h'.get? b = some o) → h'.objs.size = s.heap.objs.size + 2 → gs = GenState.fresh (.func body (envOf qual scope s.heap.objs.size f cdv)) →
      Fr h₀ s.heap.objs.size h' (fun y => binds.reverse.lookup y) → h'.IsGen (s.heap.objs.size + 1) s.gens.size →
      Q (.ref (s.heap.objs.size + 1)) { s with gens := s.gens.push gs, toks := tk, heap := h' })
    (hco : scope.isCoroutine = false) (hgen : scope.isGenerator = true) (hk : scope.kind = .function) (hcell : ∀ x ∈ scope.names, x.2 ≠ .cell) :
    wpAny (model prog w) A (call (.ref f) args) Q E s := by
  have X := X₀.keeps F.keep
  have T' := T.keeps F.keep
  have nl := T'.nolimit
  have hle : h₀.objs.size ≤ s.heap.objs.size := by
    obtain ⟨oL, _, _, hL, _⟩ := F.ns
    exact Nat.le_trans F.above (Nat.le_of_lt (Heap.lt_size hL))
  have hcS : cStatics < s.heap.objs.size := let ⟨_, hn, _⟩ := nl; hn.lt
  refine wpAny_call (codeAny_call_generator (fd := fnOf name qual params body scope dV kV doc pm an cdv ct) (body := body) hroom (X _ _ ho) rfl hco hgen rfl (codeRec_of X hcd) ?_)
  rw [hbind]
  refine wpAny_pure (wpAny_newFunctionEnv hcell hloc (fun h' hn' hs' => ?_) hk)
  have keep : ∀ b o, s.heap.get? b = some o → h'.get? b = some o := fun b o e => hs'.extBut b o (Nat.ne_of_lt (Heap.lt_size e)) (Heap.get?_push_of_some _ e)
  have hsz : h'.objs.size = s.heap.objs.size + 1 := by rw [hs'.1, Heap.size_push]
  refine ⟨nl.keeps keep, ?_⟩
  show Q (.ref h'.objs.size) _
  rw [hsz]
  refine h _ _ _ (fun b o e => Heap.get?_push_of_some _ (keep b o e)) (by rw [Heap.size_push, hsz]) rfl ⟨hn'.push _, fun b o e => Heap.get?_push_of_some _ (keep b o (F.keep b o e)), hle⟩ ?_
  rw [← hsz]
  exact ⟨_, _, _, Heap.get?_push_size _ rfl, rfl, rfl, rfl⟩
end
set_option maxHeartbeats 1200000 in
theorem anc_spec {w : World} {mean : ExcName → Option Value} {mg mb : Str → Option Value} {h₀ hb : Heap} {outer : List Env} {L : Addr} {m : Str → Option Value} {s : Shared} {news : List (Addr × Obj)} {Q E : Value → Shared → Prop}
    {gd : Option (List Code)} {cn : Str} {cs' : Scope} {a : Addr} {ccd : Value} {cl : List (Str × Addr)} {p : Program} {loose : List Str}
    (FF : Fr hb L s.heap m) (NN : News hb L s.heap news) (KX : (hd.heap_39 w.params).In h₀) (T : Top p loose mean mg mb h₀) (st : h₀.StaysIn hb) (hle : h₀.objs.size ≤ L) (x : Str) (t : Tok) (hx : x.length ≤ 40)
    (ret : ∀ r C g h' tk gs oC oG, g = s.gens.size → C < r → (∀ p ∈ news, p.1 < C) → L < C → Fr hb L h' m → News hb L h' ((r, oG) :: (C, oC) :: news) → gs.bare = true →
      FAt Mine.rwS.row.prog w AG r g C (liveL h₀) (tV (aR [] (cs x))) (aR [] (cs x)).length 0 { s with gens := s.gens.push gs, toks := tk, heap := h' } →
      Q (.ref r) { s with gens := s.gens.push gs, toks := tk, heap := h' }) :
    wpAny (model Mine.rwS.row.prog w) (ktrTop 410 110 gd cn cs' L a ccd cl outer) (call (.ref 110) [.str x t]) Q E s := by
  have F : Fr h₀ L s.heap m := ⟨FF.ns, fun b o e => FF.keep b o (st b o e), hle⟩
  k_dflt (refine' anc_made ?k2 ?k3 ?k5 ?k6 ?k7 ?k8 ?k9 ?kB ?_ ?c2 ?c3 ?c4 ?c5; (case k2 => k_asm); (case k3 => k_asm); (case k5 => k_asm); (case k6 => k_is); (case k7 => k_is); (case k8 => ktr_room); (case k9 => exact rfl); (case c5 => decide); (case kB => exact locs rfl); (case c2 => exact rfl); (case c3 => exact rfl); (case c4 => exact rfl))
  intro h' tk gs keep hsz hgs F' hG
  have X' := KX
  have T' := T
  have nl' := (T.keeps F.keep).nolimit
  have hL : L < s.heap.objs.size := by
    obtain ⟨oL, _, _, hL, _⟩ := F.ns
    exact Heap.lt_size hL
  obtain ⟨oC, _, _, hoC, _⟩ := F'.ns
  obtain ⟨oG, _, _, hoG, _⟩ := id hG
  have F2 : Fr hb L h' m := ⟨FF.ns.keeps keep, fun b o e => keep b o (FF.keep b o e), FF.above⟩
  have N2 : News hb L h' ((s.heap.objs.size + 1, oG) :: (s.heap.objs.size, oC) :: news) := by
    intro p hp
    rcases List.mem_cons.mp hp with rfl | hp
    · exact ⟨hoG, Nat.ne_of_gt (Nat.lt_succ_of_lt hL), Heap.get?_none_of_le (Nat.le_trans FF.above (Nat.le_of_lt (Nat.lt_succ_of_lt hL)))⟩
    · rcases List.mem_cons.mp hp with rfl | hp
      · exact ⟨hoC, Nat.ne_of_gt hL, Heap.get?_none_of_le (Nat.le_trans FF.above (Nat.le_of_lt hL))⟩
      · exact ⟨keep _ _ (NN p hp).1, (NN p hp).2.1, (NN p hp).2.2⟩
  refine ret _ _ _ h' tk gs oC oG rfl (Nat.lt_succ_self _) (fun p hp => Heap.lt_size (NN p hp).1) hL F2 N2 (by rw [hgs]; rfl) ⟨hG, nl'.keeps keep, gs, Array.getElem?_push_size .., fun s'' hal => ?_⟩
  subst hgs
  have gi : GI h₀ s.heap.objs.size (cs x) s''.heap := gi_alive ⟨_, t, F', by rw [St_cs]; rfl⟩ hal
  refine ⟨rfl, seg_func (seg_execs_cons (seg_wrapF fun out => ?_))⟩
  clear ret F FF NN KX T hal nl' F2 N2 hoC hoG hL st hle
  obtain ⟨m1, t1, F9, hm1⟩ := gi
  have hl : (St (cs x)).length ≤ 40 := by rw [St_cs]; exact hx
  have F8 := fr_canon F9 [(Str.ofString "path", .str (St (cs x)) t1)] (by intro p hp; cases hp with | head => exact hm1 | tail _ hp => cases hp)
  clear F9
  have N9 := allN_news h₀ s.heap.objs.size s''.heap
  have hkeep := F8.keep
  refine wp_up (A' := ktrTop 440 170 none _ _ _ _ _ _ out) rfl (Nat.le_of_ble_eq_true rfl) rfl rfl (Nat.le_of_ble_eq_true rfl) ?_
  k_fold
  k_steps
  rename Fr _ _ _ _ => F7
  rename News _ _ _ _ => N7
  have gi : GI h₀ s.heap.objs.size (rstL (cs x)) _ := ⟨_, _, F7, by show some _ = some _; rw [rstrip_eq, cs_St]⟩
  have kp := kept_of F7 hkeep N7 (by intro q hq; exact hq)
  refine seg_execs_cons (seg_While fun pw => ?_)
  refine gen_loop rfl rfl rfl rfl ?Ht ?He ?Hs ?Hend _ (rstL (cs x)) _ _ (anc_start (cs x)).2 (Nat.le_trans (rst_le _) (by rw [← len_cs]; exact hx)) (by rw [(anc_start (cs x)).1]; rfl) (by omega) (by rw [(anc_start (cs x)).1]; simp) gi (since_kept (GenSince.refl _ [] s'') kp)
  case Ht =>
    intro out p s1 Q g hp hQ
    clear gi kp F7 N7 hkeep hl
    obtain ⟨m1, t1, F9, hm1⟩ := g
    have hl : (St p).length ≤ 40 := by rw [len_St]; exact hp
    have F8 := fr_canon F9 [(Str.ofString "path", .str (St p) t1)] (by intro q hq; cases hq with | head => exact hm1 | tail _ hq => cases hq)
    clear F9
    have N9 := allN_news h₀ s.heap.objs.size s1.heap
    have hkeep := F8.keep
    refine wp_up (A' := ktrTop 560 210 none _ _ _ _ _ _ out) rfl (Nat.le_of_ble_eq_true rfl) rfl rfl (Nat.le_of_ble_eq_true rfl) ?_
    k_steps
    rename Fr _ _ _ _ => F7
    rename News _ _ _ _ => N7
    have e : ((Txt.rstripChars (St p) (Str.ofString "/")).length != 0) = decide (rstL p ≠ []) := by
      rw [rstrip_eq, cs_St, len_St]
      cases rstL p <;> simp
    have e2 : (((Txt.rstripChars (St p) (Str.ofString "/")).length : Int) != 0) = decide (rstL p ≠ []) := by
      rw [← e]
      cases (Txt.rstripChars (St p) (Str.ofString "/")).length with
      | zero => rfl
      | succ n =>
        rw [Bool.eq_iff_iff]
        simp
        omega
    first | rw [e2] | rw [e]
    exact hQ _ _ ⟨_, t1, F7, rfl⟩ (kept_of F7 hkeep N7 (by intro q hq; exact hq))
  case He =>
    intro out p s1 Q g hp hQ
    clear gi kp F7 N7 hkeep hl
    obtain ⟨m1, t1, F9, hm1⟩ := g
    have hl : (St p).length ≤ 40 := by rw [len_St]; exact hp
    have F8 := fr_canon F9 [(Str.ofString "path", .str (St p) t1)] (by intro q hq; cases hq with | head => exact hm1 | tail _ hq => cases hq)
    clear F9
    have N9 := allN_news h₀ s.heap.objs.size s1.heap
    have hkeep := F8.keep
    refine wp_up (A' := ktrTop 560 210 none _ _ _ _ _ _ out) rfl (Nat.le_of_ble_eq_true rfl) rfl rfl (Nat.le_of_ble_eq_true rfl) ?_
    k_steps
    rename Fr _ _ _ _ => F7
    rename News _ _ _ _ => N7
    exact hQ t1 _ _ ⟨_, t1, F7, rfl⟩ (kept_of F7 hkeep N7 (by intro q hq; exact hq))
  case Hs =>
    intro out p s1 Q g hp hQ
    clear gi kp F7 N7 hkeep hl
    obtain ⟨m1, t1, F9, hm1⟩ := g
    have hl : (St p).length ≤ 40 := by rw [len_St]; exact hp
    have F8 := fr_canon F9 [(Str.ofString "path", .str (St p) t1)] (by intro q hq; cases hq with | head => exact hm1 | tail _ hq => cases hq)
    clear F9
    have N9 := allN_news h₀ s.heap.objs.size s1.heap
    have hkeep := F8.keep
    refine wp_up (A' := ktrTop 560 210 none _ _ _ _ _ _ out) rfl (Nat.le_of_ble_eq_true rfl) rfl rfl (Nat.le_of_ble_eq_true rfl) ?_
    k_steps
    refine wp_up (A' := ktrTop 570 220 none _ _ _ _ _ _ out) rfl (Nat.le_of_ble_eq_true rfl) rfl rfl (Nat.le_of_ble_eq_true rfl) ?_
    refine split_specN F8 X' N9 T' rfl (St p) t1 hl ?_
    intro r y z t2 t3 n tk h2 hy F2 N2
    clear F8 N9
    k_steps
    rename Fr _ _ _ _ => F7
    rename News _ _ _ _ => N7
    refine hQ _ _ ⟨_, t2, F7, ?_⟩ (kept_of F7 hkeep N7 ?_)
    · have e : (Str.ofString "path" = Str.ofString "tail") = False := by decide +kernel
      rw [if_neg (by rw [e]; exact id), if_pos rfl, hy, splitH_eq, cs_St]
    · intro q hq
      exact List.mem_cons_of_mem _ hq
  case Hend =>
    intro s₀ s1 gs
    refine seg_leaf (.ok .next) ?_
    exact seg_end (.ok (.ret .none)) ⟨rfl, rfl, gs⟩
end Mine
end
section -- Dr
example : True := by
  w_top off
  k_with_none
  trivial
open PySem PySem.W PyProof.Rows PySem.Calls
namespace Mine
local macro_rules | `(tactic| walk_at $s:str) => `(tactic| k_extra $s)
example : Mine.rwS = Mine.rwS ∧ hd.heap_39 = hd.heap_39 := by k_fill; exact ⟨rfl, rfl⟩

theorem strs_of : ∀ (l : List (List Nat)) (vs : List Value), vs.length = l.length → (∀ j v, vs[j]? = some v → tV l j v) → StrsAre vs (l.map St)
  | [], [], _, _ => .nil
  | [], _ :: _, h, _ => by simp at h
  | _ :: _, [], h, _ => by simp at h
  | a :: l, v :: vs, h, hv => by
    obtain ⟨t, e⟩ := hv 0 v rfl
    subst e
    exact .cons _ t (strs_of l vs (by simpa using h) fun j v hj => by simpa [tV] using hv (j + 1) v hj)
theorem walks_anc {A : Around} (hh : A.handled = none) (hd : A.depth ≤ 420) (hu : A.units ≤ 130) {prog : Program} {w : World} (r : Addr) (g : Nat) (C : Addr) (fp : List Addr) (V : Nat → Value → Prop) (N : Nat) (hrC : C < r) (hcs : cStatics < C) (hcf : cStatics ∈ fp) :
    WalksS prog w A r (r :: C :: fp) [C] (GenOnlyQ g) N V (FAt prog w AG r g C fp V N) :=
  let W := walks_gen (prog := prog) (w := w) (A := AG) rfl r g C fp V N hrC (by decide) hcs hcf
  have up : ∀ {α : Type} {t : Sem α} {Q : α → Shared → Prop} {E : Value → Shared → Prop} {s : Shared}, wpAny (model prog w) AG t Q E s → wpAny (model prog w) A t Q E s :=
    fun h Γ p hΓ => h Γ p ⟨hΓ.1.trans hh, Nat.le_trans hΓ.2.1 hd, fun l hl => (nomatch (show (none : Option (List Env)) = some l from hl)), fun g hl => (nomatch (show (none : Option (List Code)) = some g from hl)), Nat.le_trans hΓ.2.2.2.2 hu⟩
  { sub := W.sub, grefl := W.grefl, gtrans := W.gtrans, frame := W.frame,
    item := fun i s Q E hi st h => up (W.item i s Q E hi st h), done := fun s Q E st h => up (W.done s Q E st h), self := fun i s Q E st h => up (W.self i s Q E st h) }
theorem statics_live {h : Heap} (nl : h.NoLimit) : cStatics ∈ liveL h := by
  obtain ⟨mc, ⟨o, _, _, ho, _⟩, _⟩ := nl
  exact in_liveL ho
theorem drain_list {w : World} {mean : ExcName → Option Value} {mg mb : Str → Option Value} {h₀ : Heap} {outer : List Env} {L : Addr} {m : Str → Option Value} {s : Shared} {news : List (Addr × Obj)} {Q E : Value → Shared → Prop}
    {gd : Option (List Code)} {cn : Str} {cs' : Scope} {a : Addr} {ccd : Value} {cl : List (Str × Addr)} {p : Program} {loose : List Str}
    (F : Fr h₀ L s.heap m) (KX : (hd.heap_39 w.params).In h₀) (N : News h₀ L s.heap news) (T : Top p loose mean mg mb h₀) (hk : cs'.kind = .function) {r C : Addr} {g : Nat} {l : List (List Nat)} {oG oC : Obj} {news' : List (Addr × Obj)} (hn : news = (r, oG) :: (C, oC) :: news') (hrC : C < r) (hlt : ∀ p ∈ news', p.1 ≠ C) (hLC : L < C)
    (FA : FAt Mine.rwS.row.prog w AG r g C (liveL h₀) (tV l) l.length 0 s) (hbare : ∀ x ∈ s.gens, x.bare = true) (hlen : l.length ≤ 64)
    (ret : ∀ q vs n h' tk gens', StrsAre vs (l.map St) → Fr h₀ L h' m → News h₀ L h' ((q, listOf vs.toArray n) :: news') → (∀ x ∈ gens', x.bare = true) → Q (.ref q) { s with gens := gens', toks := tk, heap := h' }) :
    wpAny (model Mine.rwS.row.prog w) (ktrTop 410 120 gd cn cs' L a ccd cl outer) (call (.type "list") [.ref r]) Q E s := by
  subst hn
  have nl := T.nolimit
  obtain ⟨oL, es, ep, hoL, rL⟩ := id F.ns
  have hLs := Heap.lt_size hoL
  have hcs : cStatics < C := by
    obtain ⟨mc, ⟨o, _, _, ho, _⟩, _⟩ := id nl
    exact Nat.lt_of_lt_of_le (Heap.lt_size ho) (Nat.le_trans F.above (Nat.le_of_lt hLC))
  have hCs := Heap.lt_size (N (C, oC) (by simp)).1
  have hrs := Heap.lt_size (N (r, oG) (by simp)).1
  refine call_list_gen (walks_anc rfl (Nat.le_of_ble_eq_true rfl) (Nat.le_of_ble_eq_true rfl) r g C (liveL h₀) (tV l) l.length hrC hcs (statics_live nl)) (fun i s st => st.1.typeIs) FA ?_ (by simp) ?_ (Nat.le_trans hlen (by decide))
  · intro b hb
    rcases List.mem_cons.mp hb with rfl | hb
    · exact hrs
    · rcases List.mem_cons.mp hb with rfl | hb
      · exact hCs
      · obtain ⟨o, ho⟩ := of_liveL hb
        exact Heap.lt_size (F.keep _ _ ho)
  · intro s' acc' c' hm hS hacc
    obtain ⟨h', gens', dr', tk', os'⟩ := s'
    obtain ⟨hk', hg', hd', ho', ht'⟩ := hm
    have hk2 : ∀ b o, b ≠ C → s.heap.get? b = some o → h'.get? b = some o := fun b o hb e =>
      hk' b o (by
        intro hm
        rcases List.mem_cons.mp hm with rfl | hm
        · exact absurd (Heap.lt_size e) (Nat.lt_irrefl _)
        · rcases List.mem_cons.mp hm with rfl | hm
          · exact hb rfl
          · cases hm) (Heap.get?_push_of_some _ e)
    have e1 : dr' = s.drawn := hd'
    have e2 : os' = s.os := ho'
    subst e1 e2
    refine ret s.heap.objs.size acc'.toList c' h' tk' gens' (strs_of l _ (by simpa using hacc.1) fun j v hj => hacc.2 j v (by simpa using hj)) ⟨⟨oL, es, ep, hk2 L oL (Nat.ne_of_lt hLC) hoL, rL⟩, fun b o e => hk2 b o ?_ (F.keep b o e), F.above⟩ ?_ (hg'.bare hbare)
    · intro q
      subst q
      have := (N (b, oC) (by simp)).2.2
      rw [e] at this
      cases this
    · intro p hp
      rcases List.mem_cons.mp hp with rfl | hp
      · exact ⟨hS, Nat.ne_of_gt hLs, Heap.get?_none_of_le (Nat.le_trans F.above (Nat.le_of_lt hLs))⟩
      · have hp' := N p (List.mem_cons_of_mem _ (List.mem_cons_of_mem _ hp))
        exact ⟨hk2 _ _ (hlt p hp) hp'.1, hp'.2⟩
end Mine
end
section -- Ow
example : True := by
  w_top off
  k_with_none
  trivial
open PySem PySem.W PyProof.Rows PySem.Calls
namespace Mine
local macro_rules | `(tactic| walk_at $s:str) => `(tactic| k_extra $s)
example : Mine.rwS = Mine.rwS ∧ hd.heap_39 = hd.heap_39 := by k_fill; exact ⟨rfl, rfl⟩

open Sem (wp)
/-- a value's own iterator: what pyIter and pyNext of it do, S an object apart that they leave alone -/
structure OwnW (prog : Program) (w : World) (A : Around) (I : Addr) (C : Value) (S : Addr) (n : Nat) (V : Nat → Value → Prop) (J : Nat → Shared → Prop) (Fin : Shared → Prop) : Prop where
  frame : ∀ i s h' tk, J i s → (∀ b o, b ≠ S → s.heap.get? b = some o → h'.get? b = some o) → s.heap.objs.size ≤ h'.objs.size → J i { s with heap := h', toks := tk }
  item : ∀ i s oS (Q : Option Value → Shared → Prop) E, i < n → J i s → s.heap.get? S = some oS → (∀ v s', V i v → J (i + 1) s' → s'.heap.get? S = some oS → Q (some v) s') → wpAny (model prog w) A (pyNext (.ref I)) Q E s
  done : ∀ s oS (Q : Option Value → Shared → Prop) E, J n s → s.heap.get? S = some oS → (∀ s', Fin s' → s'.heap.get? S = some oS → Q none s') → wpAny (model prog w) A (pyNext (.ref I)) Q E s
  self : ∀ s oS (Q : Value → Shared → Prop) E, J 0 s → s.heap.get? S = some oS → (∀ s', J 0 s' → s'.heap.get? S = some oS → Q (.ref I) s') → wpAny (model prog w) A (pyIter (.ref I)) Q E s
  ty : ∀ s, J 0 s → Looks (model prog w) s.heap (typeOf (.ref I)) C
  noLen : ∀ s, J 0 s → Looks (model prog w) s.heap (typeLookup C "__len__") none
  noHint : ∀ s, J 0 s → Looks (model prog w) s.heap (typeLookup C "__length_hint__") none
section
variable {prog : Program} {w : World} {A : Around} {R : Result → Shared → Prop} {I S : Addr} {C : Value} {n : Nat} {V : Nat → Value → Prop} {J : Nat → Shared → Prop} {Fin : Shared → Prop} {s : Shared} {E : Value → Shared → Prop}
theorem own_loop (W : OwnW prog w A.in1 I C S n V J Fin) (hn : n ≤ sizeLine) (res : Value) :
    ∀ (k i : Nat) (s : Shared) (acc : Array Value) (c : Nat), n - i = k → i ≤ n → J i s → s.heap.get? S = some { cls := .type "list", dict := none, data := .seq acc c, slots := #[] } → ItemsOf V acc i →
    (∀ s' acc' c', Fin s' → s'.heap.get? S = some { cls := .type "list", dict := none, data := .seq acc' c', slots := #[] } → ItemsOf V acc' n → R (.ok (.ret res)) s') →
    codeAny (model prog w) A (.builtin "list.extend.loop" ⟨[.ref S, .ref I, res], []⟩) R s := by
  intro k
  induction k with
  | zero =>
    intro i s acc c hk hi hst hS hacc hR
    have hin : i = n := by omega
    subst hin
    refine codeAny_builtin F.entry_extend_loop ?_
    rw [Around.under_plainId F.plain_extend_loop _]
    show wpAny _ A.in1 (pyNext (.ref I) >>= _) _ _ s
    refine wpAny_bind (W.done s _ _ _ hst hS fun s' hf hS' => ?_)
    exact wpAny_pure (hR s' acc c hf hS' hacc)
  | succ k ih =>
    intro i s acc c hk hi hst hS hacc hR
    have hlt : i < n := by omega
    refine codeAny_builtin F.entry_extend_loop ?_
    rw [Around.under_plainId F.plain_extend_loop _]
    show wpAny _ A.in1 (pyNext (.ref I) >>= _) _ _ s
    refine wpAny_bind (W.item i s _ _ _ hlt hst hS fun v s' hP hst' hS' => ?_)
    show wpAny _ A.in1 (updateSeq S (·.push v) >>= _) _ _ _
    refine wpAny_bind ?_
    refine wpAny_updateSeq hS' rfl (wpAny_pure ⟨plainId_quiet F.plain_extend_loop _, ih (i + 1) _ (acc.push v) _ (by omega) hlt (W.frame _ s' _ s'.toks hst' (fun b o hb e => ?_) (by first | exact Nat.le_refl _ | (rw [Heap.size_update]; exact Nat.le_refl _) | simp [Heap.update])) (Heap.get?_update_self _ hS' rfl) (hacc.push hP) hR⟩)
      (by rw [hacc.1]; omega) (by show (acc.push v).size ≤ sizeLine + 1; rw [Array.size_push, hacc.1]; omega)
    exact (Heap.get?_update_other _ _ (Ne.symm hb)).trans e
theorem own_extend (W : OwnW prog w A.in1 I C S n V J Fin) (hC : C ≠ .type "list") (hC2 : C ≠ .type "tuple") (hSI : S ≠ I) (res : Value) (c₀ : Nat) (hst : J 0 s)
    (hS : s.heap.get? S = some { cls := .type "list", data := .seq #[] c₀ })
    (hR : ∀ s' acc' c', Fin s' → s'.heap.get? S = some { cls := .type "list", dict := none, data := .seq acc' c', slots := #[] } → ItemsOf V acc' n → R (.ok (.ret res)) s') (hn : n ≤ sizeLine) :
    wpAny (model prog w) A.in1 (Builtin.List.listExtendWith (.ref S) (.ref I) res)
      (fun fin s' => match fin with | .done f => R (.ok f) s' | .again c' => c'.quiet = true ∧ codeAny (model prog w) A c' R s') (fun e s' => R (.error e) s') s := by
  unfold Builtin.List.listExtendWith
  refine wpAny_bind ((W.ty s hst).here ?_)
  have h1 : Builtin.List.listSameRef (.ref S) (.ref I) = false := by simp [Builtin.List.listSameRef, hSI]
  have h2 : (C == Value.type "list") = false := by rw [beq_eq_false_iff_ne]; exact hC
  have h3 : (C == Value.type "tuple") = false := by rw [beq_eq_false_iff_ne]; exact hC2
  simp only [h1, h2, h3, Bool.or_false, Bool.false_eq_true, if_false]
  refine wpAny_bind (W.self s _ _ _ hst hS fun s' hst hS => ?_)
  refine wpAny_bind (wpAny_holding ?_)
  unfold Builtin.List.listLengthHint
  refine wpAny_bind ?_
  simp only [specialOf]
  refine wpAny_bind ((W.ty s' hst).here ((W.noLen s' hst).here ?_))
  show wpAny _ A.in1 ((typeOf (Value.ref I) >>= fun x => typeLookup x (Str.ofString "__length_hint__")) >>= _) _ _ _
  refine wpAny_bind (wpAny_bind ((W.ty s' hst).here ((W.noHint s' hst).here ?_)))
  refine wpAny_pure ?_
  show wpAny _ A.in1 (rule "list.extend.makes-room" >>= fun _ => Builtin.List.listTouch (.ref S) >>= fun _ =>
    again (.builtin "list.extend.loop" ⟨[.ref S, .ref I, res], []⟩)) _ _ _
  refine wpAny_bind (wpAny_rule ?_)
  refine wpAny_bind ?_
  show wpAny _ A.in1 (updateSeq S (·.push .none) >>= fun _ => updateSeq S (·.pop)) _ _ _
  refine wpAny_bind (wpAny_updateSeq hS rfl ?_)
  have hS₂ := Heap.get?_update_self (Obj.mapSeq (·.push Value.none)) hS rfl
  refine wpAny_updateSeq (hz := by seq_fits) hS₂ rfl ?_
  have hS₃ := Heap.get?_update_self (Obj.mapSeq (·.pop)) hS₂ rfl
  have oth : ∀ b o, b ≠ S → s'.heap.get? b = some o → ((s'.heap.update S (Obj.mapSeq (·.push Value.none))).update S (Obj.mapSeq (·.pop))).get? b = some o :=
    fun b o hb e => (Heap.get?_update_other _ _ (Ne.symm hb)).trans ((Heap.get?_update_other _ _ (Ne.symm hb)).trans e)
  exact wpAny_pure ⟨plainId_quiet F.plain_extend_loop _, own_loop W hn _ n 0 _ _ _ rfl (Nat.zero_le _)
    (W.frame 0 s' _ s'.toks hst (fun b o hb e => oth b o hb e) (by simp [Heap.update])) hS₃ (ItemsOf.nil V) hR⟩
theorem own_init (W : OwnW prog w A.in1 I C S n V J Fin) (hC : C ≠ .type "list") (hC2 : C ≠ .type "tuple") (hSI : S ≠ I) (hst : J 0 s)
    (hS : s.heap.get? S = some { cls := .type "list", data := .seq #[] })
    (hR : ∀ s' acc' c', Fin s' → s'.heap.get? S = some { cls := .type "list", dict := none, data := .seq acc' c', slots := #[] } → ItemsOf V acc' n → R (.ok (.ret .none)) s') (hn : n ≤ sizeLine) :
    wpAny (model prog w) A.in1 (Builtin.«list.__init__» ⟨[.ref S, .ref I], []⟩)
      (fun fin s' => match fin with | .done f => R (.ok f) s' | .again c' => c'.quiet = true ∧ codeAny (model prog w) A c' R s') (fun e s' => R (.error e) s') s := by
  show wpAny _ A.in1 (do let old ← Builtin.List.listItems (.ref S); Builtin.List.listUpdate (.ref S) (fun _ => #[]); letGo old.toList.reverse; Builtin.List.listExtendWith (.ref S) (.ref I) .none) _ _ s
  refine wpAny_bind ?_
  unfold Builtin.List.listItems
  refine wpAny_bind (wpAny_seqItems hS rfl (wpAny_pure ?_))
  show wpAny _ A.in1 (updateSeq S (fun _ => #[]) >>= fun _ => letGo (#[] : Array Value).toList.reverse >>= fun _ => Builtin.List.listExtendWith (.ref S) (.ref I) .none) _ _ s
  refine wpAny_bind (wpAny_updateSeq hS rfl ?_)
  have hS₂ := Heap.get?_update_self (Obj.mapSeq (fun _ => (#[] : Array Value))) hS rfl
  have oth : ∀ b o, b ≠ S → s.heap.get? b = some o → (s.heap.update S (Obj.mapSeq (fun _ => (#[] : Array Value)))).get? b = some o :=
    fun b o hb e => (Heap.get?_update_other _ _ (Ne.symm hb)).trans e
  refine wpAny_bind (wpAny_letGo ?_)
  exact own_extend (hn := hn) W hC hC2 hSI .none _ (W.frame 0 s _ s.toks hst (fun b o hb e => oth b o hb e) (by simp [Heap.update])) hS₂ hR
theorem own_list {Q : Value → Shared → Prop} (W : OwnW prog w A.in1.in1 I C s.heap.objs.size n V J Fin) (hC : C ≠ .type "list") (hC2 : C ≠ .type "tuple") (hI : I < s.heap.objs.size)
    (hst : J 0 { s with heap := s.heap.push { cls := .type "list", data := .seq #[] } })
    (hQ : ∀ s' acc' c', Fin s' → s'.heap.get? s.heap.objs.size = some { cls := .type "list", dict := none, data := .seq acc' c', slots := #[] } → ItemsOf V acc' n → Q (.ref s.heap.objs.size) s') (hn : n ≤ sizeLine) :
    wpAny (model prog w) A (call (.type "list") [.ref I]) Q E s := by
  refine callType_codes (Q₁ := fun obj s₁ => obj = .ref s.heap.objs.size ∧ s₁ = { s with heap := s.heap.push { cls := .type "list", data := .seq #[] } }) F.called_list (F.typeCall_list_1 _) F.entry_list_init
    (code_list_new _ ⟨rfl, rfl⟩) fun obj s₁ h₁ => ?_
  obtain ⟨rfl, rfl⟩ := h₁
  have hS : (s.heap.push { cls := .type "list", data := .seq #[] }).get? s.heap.objs.size = some { cls := .type "list", data := .seq #[] } := Heap.get?_push_size _ rfl
  exact ⟨⟨_, hS, rfl⟩, F.args_list_init_2 _ _, own_init (hn := hn) W hC hC2 (Nat.ne_of_gt hI) hst hS fun s' acc' c' hf hS' hacc => ⟨rfl, hQ s' acc' c' hf hS' hacc⟩⟩
end
end Mine
end
section -- Pa
example : True := by
  w_top off
  k_with_none
  trivial
open PySem PySem.W PyProof.Rows PySem.Calls
namespace Mine
local macro_rules | `(tactic| walk_at $s:str) => `(tactic| k_extra $s)
example : Mine.rwS = Mine.rwS ∧ hd.heap_39 = hd.heap_39 := by k_fill; exact ⟨rfl, rfl⟩

example : True := by
  k_with "call ref" => ((k_here; (with_reducible show wpAny _ _ (call (Value.ref 110) _) _ _ _); refine Hold.mk ?_))
  trivial
example : True := by
  k_with "exec For Name Name cons nil" => (((rename Fr _ _ _ _ => F'); (with_reducible apply For_unrF); (case _F => with_unfolding_all exact F'); (case hs => (intro _; with_unfolding_all rfl))))
  trivial
example : True := by
  k_with "call builtin:iter" => ((refine Hold.mk ?_))
  trivial
/-- what a generator's object is -/
def GenO (o : Obj) (g : Nat) : Prop := ∃ nm qn, o.cls = .type "generator" ∧ o.data = .fields #[.int g 0, nm, qn] ∧ o.slots = #[]
theorem GenO.at {h : Heap} {a : Addr} {g : Nat} {o : Obj} (x : GenO o g) (e : h.get? a = some o) : h.IsGen a g := let ⟨nm, qn, r⟩ := x; ⟨o, nm, qn, e, r⟩
theorem GenO.of {h : Heap} {a : Addr} {g : Nat} {o : Obj} (x : h.IsGen a g) (e : h.get? a = some o) : GenO o g := by
  obtain ⟨o', nm, qn, e', r⟩ := x
  rw [e] at e'
  cases e'
  exact ⟨nm, qn, r⟩
theorem iter_gen {prog : Program} {w : World} {A : Around} {E : Value → Shared → Prop} {s : Shared} {d : Addr} {g : Nat} {Q : Value → Shared → Prop} (hg : s.heap.IsGen d g) (h : Q (.ref d) s) :
    wpAny (model prog w) A (call (.builtin "iter") [.ref d]) Q E s := by
  refine call_function_entry (by decide +kernel) (by decide +kernel) kdk_entry_iter (kdk_args_iter _) ?_
  unfold Builtin.«iter»
  refine wpAny_bind (m := someArgs "iter" 1 2 _) (wpAny_of_eq (a := [Value.ref d]) (by first | rfl | kernel_rfl!) ?_)
  show wpAny _ _ (pyIter (.ref d) >>= _) _ _ _
  exact wpAny_bind (wpAny_pyIter_gen hg (wpAny_pure ⟨_, rfl, h⟩))
theorem set_with {M : Model} {A : Around} {E : Value → Shared → Prop} {s : Shared} {news : List (Addr × Obj)} {x : Addr} {n : Str} {v : Value} {Q : Unit → Shared → Prop} (hx : ∀ p ∈ news, p.1 < x)
    (h : (∀ p ∈ news, p.1 < x) → wpAny M A (setAttr (.ref x) n v) Q E s) : wpAny M A (setAttr (.ref x) n v) Q E s := h hx
/-- an islice object: its generator, how many it took, how many it is to have taken at the next turn -/
@[reducible] def isO (d : Addr) (it : Value) (c n : Int) (t0 t1 t2 t3 : Tok) : Obj := { cls := .ref 68, dict := some d, slots := #[some (.int c t0), some it, some (.int n t1), some (.int 1 t2), some (.int (-1) t3)] }
theorem fat_at {prog : Program} {w : World} {A : Around} {a C : Addr} {g : Nat} {V : Nat → Value → Prop} {N j : Nat} {s s' : Shared} {oG oC : Obj} {h₀ : Heap} (x : FAt prog w A a g C (liveL h₀) V N j s) (hg : s'.gens = s.gens)
    (hG : s.heap.get? a = some oG) (hG' : s'.heap.get? a = some oG) (hC : s.heap.get? C = some oC) (hC' : s'.heap.get? C = some oC) (k : ∀ b o, h₀.get? b = some o → s.heap.get? b = some o) (k' : ∀ b o, h₀.get? b = some o → s'.heap.get? b = some o) (nl : s'.heap.NoLimit) :
    FAt prog w A a g C (liveL h₀) V N j s' := by
  obtain ⟨hi, _, gs, hgs, hgo⟩ := x
  refine ⟨(GenO.of hi hG).at hG', nl, gs, by rw [hg]; exact hgs, fun s'' hal => hgo s'' fun b hb o e => ?_⟩
  rcases List.mem_cons.mp hb with rfl | hb'
  · rw [hC] at e
    cases e
    exact hal _ hb oC hC'
  · obtain ⟨o', ho'⟩ := of_liveL hb'
    have e2 := (k _ _ ho').symm.trans e
    cases e2
    exact hal _ hb _ (k' _ _ ho')
set_option maxHeartbeats 1200000 in
theorem parents_spec {w : World} {mean : ExcName → Option Value} {mg mb : Str → Option Value} {A₀ : Around} {base h₀ : Heap} {outer : List Env} {L : Addr} {m : Str → Option Value} {s : Shared} {news : List (Addr × Obj)} {Q E : Value → Shared → Prop}
    {gd : Option (List Code)} {cn : Str} {cs' : Scope} {a : Addr} {ccd : Value} {cl : List (Str × Addr)} {p : Program} {loose : List Str}
    (B : Below A₀ base outer h₀) (F : Fr h₀ L s.heap m) (KX : (hd.heap_39 w.params).In h₀) (N : News h₀ L s.heap news) (T : Top p loose mean mg mb h₀) (hk : cs'.kind = .function) (x : Str) (t : Tok) (hx : x.length ≤ 40)
    (ret : ∀ r d ga gC g t0 t1 t2 t3 oG oC tk h' gs, g = s.gens.size → gC < ga → ga < d → d < r → (∀ p ∈ news, p.1 < gC) → L < gC → Fr h₀ L h' m → News h₀ L h' ((r, isO d (.ref ga) 0 1 t0 t1 t2 t3) :: (d, dictOf [] 0) :: (ga, oG) :: (gC, oC) :: news) → GenO oG g → gs.bare = true →
      FAt Mine.rwS.row.prog w AG ga g gC (liveL h₀) (tV (aR [] (cs x))) (aR [] (cs x)).length 0 { s with gens := s.gens.push gs, toks := tk, heap := h' } → Q (.ref r) { s with gens := s.gens.push gs, toks := tk, heap := h' }) :
    wpAny (model Mine.rwS.row.prog w) (ktrTop 330 60 gd cn cs' L a ccd cl outer) (call (.ref 82) [.str x t]) Q E s := by
  refine wpAny_call ?_
  k_dflt cell_enter
  rename_i g1 L1 h1 FG F1 N1 B1 X1 T1
  k_steps
  refine Hold.out ?_
  rename Fr _ _ _ _ => F8
  rename News _ _ _ _ => N8
  have st9 : h₀.StaysIn g1 := FG.keep
  have hle9 : h₀.objs.size ≤ L1 := Nat.le_trans FG.above (Nat.le_trans (Nat.le_of_lt (let ⟨_, _, _, e, _⟩ := FG.ns; Heap.lt_size e)) F8.above)
  refine wp_up (A' := ktrTop 410 110 _ _ _ _ _ _ _ _) rfl (Nat.le_of_ble_eq_true rfl) rfl rfl (Nat.le_of_ble_eq_true rfl) ?_
  have hLL : L < L1 := Nat.lt_of_lt_of_le (let ⟨_, _, _, e, _⟩ := FG.ns; Heap.lt_size e) F8.above
  refine anc_spec F8 N8 KX T st9 hle9 x _ hx ?_
  intro ga gC gg h9 tk9 gs9 oC oG hg9 hCa hlt9 hLC F9 N9 hb9 FA9
  clear F8 N8
  have hG9 := (N9 _ (.head _)).1
  have hC9 := (N9 _ (.tail _ (.head _))).1
  have hK9 : ∀ b o, h₀.get? b = some o → h9.get? b = some o := fun b o e => F9.keep b o (st9 b o e)
  have hGO : GenO oG gg := GenO.of FA9.1 hG9
  k_steps
  refine Hold.out ?_
  rename News _ _ _ _ => N8
  refine iter_gen (hGO.at (N8 (ga, oG) (by k_mem)).1) ?_
  k_steps
  refine set_with (news := news) (fun p hp => Nat.lt_trans (hlt9 p hp) ?_) (fun hlt10 => ?_)
  · show @LT.lt Nat _ _ _
    omega
  k_steps
  rename Fr h₀ L _ m => F7
  rename News h₀ L _ _ => N7
  have N6 := news_sub N7 (fun p hp => List.mem_cons_of_mem _ hp)
  refine ret _ _ ga gC gg _ _ _ _ oG oC _ _ gs9 hg9 hCa (by show @LT.lt Nat _ _ _; omega) (by show @LT.lt Nat _ _ _; omega) hlt9 (Nat.lt_trans hLL hLC) F7 N6 hGO hb9 ?_
  refine fat_at FA9 rfl hG9 (N6 _ (.tail _ (.tail _ (.head _)))).1 hC9 (N6 _ (.tail _ (.tail _ (.tail _ (.head _))))).1 hK9 F7.keep (T.keeps F7.keep).nolimit
end Mine
end
section -- Na
example : True := by
  w_top off
  k_with_none
  trivial
open PySem PySem.W PyProof.Rows PySem.Calls
namespace Mine
local macro_rules | `(tactic| walk_at $s:str) => `(tactic| k_extra $s)
example : Mine.rwS = Mine.rwS ∧ hd.heap_39 = hd.heap_39 := by k_fill; exact ⟨rfl, rfl⟩

def NewE (h h' : Heap) (e : Addr) (cls : String) : Prop :=
  (∀ b o, h.get? b = some o → h'.get? b = some o) ∧ h.get? e = none ∧ ∃ ob vs a0, h'.get? e = some ob ∧ ob.cls = .type cls ∧ ob.data = .fields vs ∧ vs[1]? = some .none ∧ vs[0]? = some a0
section
variable {prog : Program} {w : World} {A : Around} {E : Value → Shared → Prop} {s : Shared}
theorem special_genQ {a : Addr} {g n : Nat} {gs : GenState} {P : Nat → Shared → Shared → Prop} {Y : Protocol} {Q : Option Value → Shared → Prop} (hh : A.handled = none)
    (hl : s.heap.NoLimit) (hroom : A.depth < recursionLimit)
    (hg : s.heap.IsGen a g) (hgs : s.gens[g]? = some gs)
    (hgo : gs.Goes (model prog w) A.in1 (fun n s₀ r s₁ => r = .ok (.ret .none) ∧ P n s₀ s₁) Y n (.send .none) (s.setGen g .running))
    (hY : ∀ v s₁ gs', gs'.bare = true → Y (n - 1) (s.setGen g .running) v s₁ (fun r' s'' => match n with
        | 0 => False
        | m + 1 => gs'.Goes (model prog w) A.in1 (fun n s₀ r s₁ => r = .ok (.ret .none) ∧ P n s₀ s₁) Y m r' s'') → Q (some v) (s₁.setGen g gs'))
    (hP : ∀ s₁, P n (s.setGen g .running) s₁ → ∀ h' e, NewE s₁.heap h' e "StopIteration" → E (.ref e) { s₁.setGen g .finished with heap := h' }) :
    wpAny (model prog w) A (callSpecial? (.ref a) (Str.ofString "__next__")) Q E s := by
  refine wpAny_callSpecial?_slot (name := Str.ofString "__next__") hg.typeIs slot_gen_next
    (wpAny_call_entry slot_gen_next hg.typeIs entry_gen_next ?_ (args_gen_next _))
  show wpAny _ A.in1 (Builtin.Generator.genWake (.ref a) (.send .none)) _ _ s
  unfold Builtin.Generator.genWake
  refine wpAny_bind (wpAny_holding (wpAny_genNumber hg (wpAny_bind (wpAny_genState hgs ?_))))
  cases gs with
  | running => exact hgo.elim
  | finished => exact hgo.elim
  | _ =>
    refine wpAny_bind (wpAny_roomToWake hl hroom ?_)
    show wpAny _ A.in1 (.resume g (.send .none) [] _) _ _ s
    refine wpAny_resumeQ hgs hgo (fun x s₁ hx => ?_) (fun v s₁ gs' hb hv => ?_)
    · obtain ⟨rfl, hp⟩ := hx
      show wpAny _ A.in1 (newExc (.type "StopIteration") [] >>= _) _ _ _
      refine wpAny_bind ?_
      simp only [newExc, newTuple]
      refine wpAny_bind (wpAny_newObj_type ?_ (by size_fits))
      refine wpAny_bind (m := firstArgMember _ _) (wpAny_of_eq (a := Value.none) (by first | rfl | (simp only [firstArgMember]; rfl)) ?_)
      refine wpAny_newObj_type ?_ (by size_fits)
      simp only [raiseNew]
      refine wpAny_bind (wpAny_bind (wpAny_handled ?_))
      first | rw [show A.in1.handled = none from hh] | rw [hh]
      refine wpAny_throw ?_
      refine hP s₁ hp _ _ ⟨fun b o hb => Heap.get?_push_of_some _ (Heap.get?_push_of_some _ hb), Heap.get?_none_of_le (by simp [Shared.setGen]), _, _, _, Heap.get?_push_size _ rfl, rfl, rfl, rfl, rfl⟩
    · exact wpAny_pure ⟨v, rfl, hY v s₁ gs' hb hv⟩
/-- the builtin next of a generator -/
theorem call_nextQ {a : Addr} {g : Nat} {Q : Value → Shared → Prop} (hg : s.heap.IsGen a g)
    (h : wpAny (model prog w) A.in1 (callSpecial? (.ref a) (Str.ofString "__next__")) (fun r s' => ∃ v, r = some v ∧ Q v s') E s) :
    wpAny (model prog w) A (call (.builtin "next") [.ref a]) Q E s := by
  refine call_function_entry (by decide +kernel) (by decide +kernel) kdk_entry_next (kdk_args_next _) ?_
  unfold Builtin.«next»
  refine wpAny_bind (m := someArgs "next" 1 2 _) (wpAny_of_eq (a := [Value.ref a]) (by first | rfl | kernel_rfl!) ?_)
  dsimp only
  refine wpAny_bind (wpAny_specialOf (name := Str.ofString "__next__") hg.typeIs slot_gen_next.lookup ?_)
  refine wpAny_ite_split (fun hab => absurd hab (by decide)) (fun _ => ?_)
  refine wpAny_bind (wpAny_mono h (fun r s' hr => ?_) fun _ _ e => e)
  obtain ⟨v, rfl, hq⟩ := hr
  exact wpAny_pure ⟨_, rfl, hq⟩
/-- what a drained generator gives at next, seen from a frame with a ledger -/
theorem fat_item {B : Around} (hB : B.handled = none) (hd : B.depth < recursionLimit) {a C : Addr} {g : Nat} {fp : List Addr} {V : Nat → Value → Prop} {N j : Nat} {Q : Option Value → Shared → Prop} (haC : C < a) (hcs : cStatics < C) (hcf : cStatics ∈ fp)
    (hj : j < N) (st : FAt prog w B a g C fp V N j s)
    (hQ : ∀ v s', V j v → FAt prog w B a g C fp V N (j + 1) s' → Moved [C] (GenOnlyQ g) s s' → (∃ o, s'.heap.get? C = some o) → Q (some v) s') : wpAny (model prog w) B (callSpecial? (.ref a) (Str.ofString "__next__")) Q E s := by
  obtain ⟨hg, hl, gs, hgs, hgo⟩ := st
  obtain ⟨m, hm, hidx, hnx⟩ := fuel_split hj
  rw [hm] at hgo
  refine wpAny_with_toks (Nat.le_refl s.toks) ?_
  refine special_genQ (P := fun n s₀ s₁ => n = 0 ∧ GenSince C [] s₀ s₁) hB hl hd hg hgs (hgo _ fun _ _ _ e => e) (fun v s₁ gs' hb hv => ?_) (fun s₁ hp h' e hk => ?_)
  · obtain ⟨hF, ⟨h₁, tk₁, rfl, hk₁⟩, hex, hkap⟩ := hv
    rw [hidx] at hF
    have hne : a ≠ C := Nat.ne_of_gt haC
    intro htk
    refine hQ v _ hF ⟨let ⟨o, nm, qn, ho, r⟩ := hg; ⟨o, nm, qn, hk₁ a o hne (by simp) ho, r⟩, (let ⟨mc, hns, hnn⟩ := hl; ⟨mc, hns.at' fun o e => hk₁ cStatics o (Nat.ne_of_lt hcs) (by simp) e, hnn⟩), gs', setGen_self (gs := .running) (setGen_self hgs), fun s'' hal => ?_⟩
      ⟨fun b o hb e => hk₁ b o (fun h => hb (h ▸ List.mem_cons_self ..)) (by simp) e, GenOnlyQ.of ((GenOnly.setGen s g .running).trans (GenOnly.setGen _ g gs')) (setGen_self (gs := .running) (setGen_self hgs)) hb, rfl, rfl, htk⟩ hex
    rw [hnx]
    exact hkap s'' hal
  · exact absurd hp.1 (Nat.succ_ne_zero m)
theorem fat_done {B : Around} (hB : B.handled = none) (hd : B.depth < recursionLimit) {a C : Addr} {g : Nat} {fp : List Addr} {V : Nat → Value → Prop} {N : Nat} {Q : Option Value → Shared → Prop}
    (st : FAt prog w B a g C fp V N N s)
    (hE : ∀ s₁ h' e, Moved [C] (GenOnlyQ g) s s₁ → NewE s₁.heap h' e "StopIteration" → E (.ref e) { s₁ with heap := h' }) : wpAny (model prog w) B (callSpecial? (.ref a) (Str.ofString "__next__")) Q E s := by
  obtain ⟨hg, hl, gs, hgs, hgo⟩ := st
  rw [Nat.sub_self] at hgo
  refine wpAny_with_toks (Nat.le_refl s.toks) ?_
  refine special_genQ (P := fun n s₀ s₁ => n = 0 ∧ GenSince C [] s₀ s₁) hB hl hd hg hgs (hgo _ fun _ _ _ e => e) (fun v s₁ gs' hb hv => ?_) (fun s₁ hp h' e hk => ?_)
  · obtain ⟨_, _, _, hkap⟩ := hv
    exact False.elim (hkap s₁ fun _ _ _ e => e)
  · obtain ⟨_, h₁, tk₁, rfl, hk₁⟩ := hp
    intro htk
    refine hE { s with gens := (s.gens.setIfInBounds g .running).setIfInBounds g .finished, heap := h₁, toks := tk₁ } h' e ⟨fun b o hb e => hk₁ b o (fun h => hb (h ▸ List.mem_cons_self ..)) (by simp) e, GenOnlyQ.of ((GenOnly.setGen s g .running).trans (GenOnly.setGen _ g .finished)) (setGen_self (gs := .running) (setGen_self hgs)) rfl, rfl, rfl, htk⟩ hk
end
end Mine
end
section -- Nb
example : True := by
  w_top off
  k_with_none
  trivial
open PySem PySem.W PyProof.Rows PySem.Calls
namespace Mine
local macro_rules | `(tactic| walk_at $s:str) => `(tactic| k_extra $s)
example : Mine.rwS = Mine.rwS ∧ hd.heap_39 = hd.heap_39 := by k_fill; exact ⟨rfl, rfl⟩

section
variable {M : Model} {A : Around} {E : Value → Shared → Prop} {s : Shared}
theorem noteFrame_first {base : Heap} {env : Env} {outer : List Env} {L e : Addr} {oe : Obj} {vs : Array Value} {a0 : Value} {Q : Unit → Shared → Prop}
    (hfr : A.frames = some (env :: outer)) (hl : s.heap.FunFrames base (env :: outer)) (hf : env.frame = some L)
    (he : s.heap.get? e = some oe) (hkb : base.StaysIn s.heap) (hen : base.get? e = none) (hd : oe.data = .fields vs) (h1 : vs[1]? = some .none) (h0 : vs[0]? = some a0)
    (h : ∀ h', Heap.HeldW base (env :: outer) e oe.cls a0 L h' → s.heap.UpToSlots h' → Q () { s with heap := h' }) : wpAny M A (noteFrame (.ref e) env) Q E s := by
  unfold noteFrame
  simp only [hf]
  refine wpAny_bind (wpAny_field he hd h1 ?_)
  rw [if_neg (by decide)]
  refine wpAny_entryW hfr hl hf he hkb hen hd (Array.getElem?_eq_some_iff.mp h1).1 h0 fun h' hN => ?_
  obtain ⟨k1, k2, k3, k4⟩ := hN
  exact h h' ⟨k1, hen, k2, k3⟩ k4
theorem raise_bare {base : Heap} {env : Env} {l : List Env} {L e : Addr} {cls a0 : Value} {pos : Pos} {Q : Flow → Shared → Prop} (hf : env.frame = some L) (hh : A.handled = some (.ref e))
    (hfl : Heap.FlyingW base l e cls a0 s.heap) (h : ∀ h', Heap.HeldW base l e cls a0 L h' → s.heap.UpToSlots h' → E (.ref e) { s with heap := h' }) :
    wpAny M A (exec (.Raise none none pos) env) Q E s := by
  rw [arm_exec_Raise]
  refine wpAny_bind (wpAny_standAt ?_)
  show wpAny M A (raiseStmt env none none) Q E s
  unfold raiseStmt
  refine wpAny_bind (wpAny_handled ?_)
  rw [hh]
  obtain ⟨_, _, _, oe, ws, T, oT, ts, he, hc, hd, h1, _⟩ := id hfl
  refine wpAny_bind (wpAny_rule ?_)
  refine wpAny_bind (wpAny_field he hd h1 ?_)
  rw [if_neg (show ¬ ((Value.ref T == Value.none) = true) from by simp), hf]
  first
    | exact wpAny_bind (wpAny_pure (wpAny_bind (setFlight_onW hfl fun h' hh hs => wpAny_throw (h h' hh hs))))
    | exact wpAny_bind (setFlight_onW hfl fun h' hh hs => wpAny_throw (h h' hh hs))
theorem FlyingW_sub {base base' h : Heap} {l : List Env} {e : Addr} {cls a0 : Value} (x : Heap.FlyingW base l e cls a0 h) (k : ∀ b o, base'.get? b = some o → base.get? b = some o) : Heap.FlyingW base' l e cls a0 h := by
  have kn : ∀ b, base.get? b = none → base'.get? b = none := fun b hb => by
    cases q : base'.get? b with
    | none => rfl
    | some o => rw [k b o q] at hb; cases hb
  obtain ⟨x1, x2, x3, oe, vs, T, oT, ts, y1, y2, y3, y4, y5, y6⟩ := x
  refine ⟨fun b o e => x1 b o (k b o e), kn _ x2, ?_, oe, vs, T, oT, ts, y1, y2, y3, y4, kn _ y5, y6⟩
  clear y1 y2 y3 y4 y5 y6 x1 x2
  induction l with
  | nil => trivial
  | cons env l ih => exact ⟨x3.1, (let ⟨L, o, a, b, c⟩ := x3.2.1; ⟨L, o, a, kn _ b, c⟩), ih x3.2.2⟩
end
section
variable {prog : Program} {w : World} {A : Around} {E : Value → Shared → Prop} {s : Shared} {h₀ hX : Heap} {env : Env} {outer : List Env} {L e : Addr} {m : Str → Option Value} {mg mb : Str → Option Value} {name : Str} {scope : Scope} {a : Addr} {cd : Value}
/-- a try whose body made a StopIteration here: the one clause, for BaseException -/
theorem caught_here {B : Heap} {b₀ : Stmt} {suite : List Stmt} {pos np : Pos} {rest : List ExceptHandler} {Q : Flow → Shared → Prop} (hfr : A.frames = some (envOf name scope L a cd :: outer)) (hl : hX.FunFrames B (envOf name scope L a cd :: outer))
    (hkb : ∀ b o, B.get? b = some o → hX.get? b = some o) (hx : NewE hX s.heap e "StopIteration")
    (F : Fr h₀ L hX m) (h0B : ∀ b o, h₀.get? b = some o → B.get? b = some o) (hg : h₀.Ns mainGlobals mg) (hmiss : mg "BaseException" = none) (hb : h₀.Ns builtinsNs mb) (hv : mb "BaseException" = some (.type "BaseException"))
    (k : ∀ h' a0, Heap.FlyingW B (envOf name scope L a cd :: outer) e (.type "StopIteration") a0 h' → hX.UpToSlots h' →
      wpAny (model prog w) (A.mark (some (.ref e))) (execs (b₀ :: suite) (envOf name scope L a cd)) Q E { s with heap := h' })
    (hE : PassesOwnAt (model prog w) (A.mark (some (.ref e))) A (envOf name scope L a cd) E)
    (hk : scope.kind = .function := by rfl) (hkx : (envOf name scope L a cd).kindOf "BaseException" = some .globalImplicit := by rfl) :
    wpAny (model prog w) A (noteFrame (.ref e) (envOf name scope L a cd)) (fun _ s₂ => wpAny (model prog w) A (setFlight (.ref e) none) (fun _ s₃ =>
      wpAny (model prog w) A (handleBy (.ref e) (envOf name scope L a cd) (.ExceptHandler (some (.Name "BaseException" np)) none (b₀ :: suite) pos :: rest)) Q E s₃) E s₂) E s := by
  obtain ⟨hkeep, hnew, ob, vs, a0, he, hcls, hd, h1, hf0⟩ := hx
  have hen : B.get? e = none := by
    cases q : B.get? e with
    | none => rfl
    | some o => rw [hkb e o q] at hnew; cases hnew
  refine noteFrame_first (L := L) hfr (hl.of_keeps fun b o hb _ => ⟨o, hkeep b o hb, rfl⟩) rfl he (fun b o q => hkeep b o (hkb b o q)) hen hd h1 hf0 fun h1 hheld hsm1 => ?_
  rw [hcls] at hheld
  refine wpAny_landsW hheld fun h₅ hheld5 hsm5 => ?_
  have hsm : hX.UpToSlots h₅ := ((Heap.UpToSlots.of_keeps hkeep).trans hsm1).trans hsm5
  have F₅ : Fr h₀ L h₅ m := F.of_stays (fun b o q => hheld5.1 b o (h0B b o q)) hsm
  obtain ⟨ob, hob, hobc⟩ := hheld5.there
  refine wpAny_handleBy_builtin (X := "StopIteration") (T := "BaseException") (b := true) (by rw [isSubtype_type]; kernel_rfl) (by kernel_rfl) (by rw [isSubtype_type]; kernel_rfl)
    (ld_builtin_at F₅ hg hmiss hb hv ⟨rfl, ⟨ob, hob, hobc⟩, ?_⟩ hk hkx (by decide))
  refine lands_againW hheld5 fun h₆ hfl₆ hsm₆ => ?_
  exact wpAny_passesOwnAt hE (k h₆ a0 hfl₆ (hsm.trans hsm₆))
/-- a StopIteration that came out of a call, seen by the loop of an own iterator -/
theorem stop_seen {M : Model} {B : Heap} {l : List Env} {a0 : Value} {Q : Option Value → Shared → Prop} (hfl : Heap.FlyingW B l e (.type "StopIteration") a0 s.heap) (k : Q none s) : OwitStop M A Q E (.ref e) s := by
  obtain ⟨ob, hob, hobc⟩ := hfl.there
  unfold OwitStop
  refine wpAny_isInstance (T := "StopIteration") (b := true) ⟨ob, hob, hobc⟩ (by rw [isSubtype_type]; kernel_rfl) ?_
  show (if true = true then Q none s else E (.ref e) s)
  rw [if_pos rfl]
  exact k
end
end Mine
end
section -- Ni
example : True := by
  w_top off
  k_with_none
  trivial
open PySem PySem.W PyProof.Rows PySem.Calls
namespace Mine
local macro_rules | `(tactic| walk_at $s:str) => `(tactic| k_extra $s)
example : Mine.rwS = Mine.rwS ∧ hd.heap_39 = hd.heap_39 := by k_fill; exact ⟨rfl, rfl⟩

example : True := by
  k_with "call builtin:next" => ((refine Hold.mk ?_))
  trivial
local macro_rules | `(tactic| k_upd) => `(tactic| (refine' Upd.head ?a; (case a => with_reducible assumption)))
theorem off_x {x d ga gC : Addr} {od oG oC : Obj} {rest : List (Addr × Obj)} (l1 : gC < ga) (l2 : ga < d) (l3 : d < x) (l4 : ∀ p ∈ rest, p.1 ≠ x) : ∀ p ∈ ((d, od) :: (ga, oG) :: (gC, oC) :: rest), p.1 ≠ x := by
  intro p hp
  rcases List.mem_cons.mp hp with rfl | hp
  · exact Nat.ne_of_lt l3
  rcases List.mem_cons.mp hp with rfl | hp
  · exact Nat.ne_of_lt (Nat.lt_trans l2 l3)
  rcases List.mem_cons.mp hp with rfl | hp
  · exact Nat.ne_of_lt (Nat.lt_trans l1 (Nat.lt_trans l2 l3))
  · exact l4 p hp
theorem fat_up {prog : Program} {w : World} {A : Around} {α : Type} {t : Sem α} {Q : α → Shared → Prop} {E : Value → Shared → Prop} {s : Shared} (hh : A.handled = none) (hd : A.depth ≤ 420) (hu : A.units ≤ 130)
    (h : wpAny (model prog w) AG t Q E s) : wpAny (model prog w) A t Q E s :=
  fun Γ p hΓ => h Γ p ⟨hΓ.1.trans hh, Nat.le_trans hΓ.2.1 hd, fun l hl => (nomatch (show (none : Option (List Env)) = some l from hl)), fun g hl => (nomatch (show (none : Option (List Code)) = some g from hl)), Nat.le_trans hΓ.2.2.2.2 hu⟩
/-- the ledger after the generator gave an item: its frame is another object -/
theorem moved_news {h₀ : Heap} {L C x d ga : Addr} {m : Str → Option Value} {ox od oG oC : Obj} {rest : List (Addr × Obj)} {s s' : Shared} {g : Nat} {G : Array GenState → Array GenState → Prop} (F : Fr h₀ L s.heap m) (N : News h₀ L s.heap ((x, ox) :: (d, od) :: (ga, oG) :: (C, oC) :: rest))
    (mv : Moved [C] G s s') (hC : ∃ o, s'.heap.get? C = some o) (l1 : C < ga) (l2 : ga < d) (l3 : d < x) (l4 : ∀ p ∈ rest, p.1 ≠ C) :
    ∃ oC', Fr h₀ L s'.heap m ∧ News h₀ L s'.heap ((x, ox) :: (d, od) :: (ga, oG) :: (C, oC') :: rest) := by
  obtain ⟨oC', hC⟩ := hC
  have hCL := (N (C, oC) (by simp)).2
  have keep : ∀ b o, b ≠ C → s.heap.get? b = some o → s'.heap.get? b = some o := fun b o hb e => mv.heap b o (by simpa using hb) e
  refine ⟨oC', ⟨F.ns.at' fun o e => keep L o (Ne.symm hCL.1) e, fun b o e => keep b o (fun q => by rw [q, hCL.2] at e; cases e) (F.keep b o e), F.above⟩, ?_⟩
  have one : ∀ p, p ∈ ((x, ox) :: (d, od) :: (ga, oG) :: (C, oC) :: rest) → p.1 ≠ C → s'.heap.get? p.1 = some p.2 ∧ p.1 ≠ L ∧ h₀.get? p.1 = none := fun p hp hne => ⟨keep _ _ hne (N p hp).1, (N p hp).2⟩
  intro p hp
  rcases List.mem_cons.mp hp with rfl | hp
  · exact one _ (by simp) (Nat.ne_of_gt (Nat.lt_trans l1 (Nat.lt_trans l2 l3)))
  rcases List.mem_cons.mp hp with rfl | hp
  · exact one _ (by simp) (Nat.ne_of_gt (Nat.lt_trans l1 l2))
  rcases List.mem_cons.mp hp with rfl | hp
  · exact one _ (by simp) (Nat.ne_of_gt l1)
  rcases List.mem_cons.mp hp with rfl | hp
  · exact ⟨hC, hCL⟩
  · exact one _ (by simp [hp]) (l4 p hp)
set_option maxHeartbeats 1200000 in
theorem nx_more {w : World} {mean : ExcName → Option Value} {mg mb : Str → Option Value} {A₀ : Around} {base h₀ : Heap} {outer : List Env} {L : Addr} {m : Str → Option Value} {s : Shared} {news : List (Addr × Obj)} {Q E : Value → Shared → Prop}
    {gd : Option (List Code)} {cn : Str} {cs' : Scope} {a : Addr} {ccd : Value} {cl : List (Str × Addr)} {p : Program} {loose : List Str}
    (B : Below A₀ base outer h₀) (F : Fr h₀ L s.heap m) (KX : (hd.heap_39 w.params).In h₀) (N : News h₀ L s.heap news) (T : Top p loose mean mg mb h₀) (hk : cs'.kind = .function) (x d ga gC : Addr) (g n N' : Nat) (V : Nat → Value → Prop) (t0 t1 t2 t3 : Tok) (oG oC : Obj) (hn : n ≤ 100) {rest : List (Addr × Obj)} (hnews : news = (x, isO d (.ref ga) n n t0 t1 t2 t3) :: (d, dictOf [] 0) :: (ga, oG) :: (gC, oC) :: rest)
    (l1 : gC < ga) (l2 : ga < d) (l3 : d < x) (l4 : ∀ p ∈ rest, p.1 ≠ x) (l5 : ∀ p ∈ rest, p.1 ≠ gC) (hLC : L < gC) (hO : GenO oG g) (hnN : n < N')
    (st : FAt Mine.rwS.row.prog w AG ga g gC (liveL h₀) V N' n s)
    (ret : ∀ v t0 t1 oC tk h' gens, V n v → Fr h₀ L h' m → News h₀ L h' ((x, isO d (.ref ga) (n + 1 : Nat) (n + 1 : Nat) t0 t1 t2 t3) :: (d, dictOf [] 0) :: (ga, oG) :: (gC, oC) :: rest) → GenOnlyQ g s.gens gens →
      FAt Mine.rwS.row.prog w AG ga g gC (liveL h₀) V N' (n + 1) { s with gens := gens, heap := h', toks := tk } → Q v { s with gens := gens, heap := h', toks := tk }) :
    wpAny (model Mine.rwS.row.prog w) (ktrTop 330 70 gd cn cs' L a ccd cl outer) (call (.ref 64) [.ref x]) Q E s := by
  subst hnews
  have hG0 := (N (ga, oG) (by simp)).1
  have hC0 := (N (gC, oC) (by simp)).1
  have hK0 := F.keep
  refine wpAny_call ?_
  k_dflt cell_enter
  rename_i g1 L1 h1 FG F1 N1 B1 X1 T1
  k_steps
  rw [show decide ((n : Int) < (n : Int)) = false from by simp]
  k_steps
  refine Hold.out ?_
  rename Fr _ _ _ _ => F2
  rename News _ _ _ _ => N2
  refine call_nextQ (hO.at (N2 (ga, oG) (by simp)).1) (fat_up rfl (Nat.le_of_ble_eq_true rfl) (Nat.le_of_ble_eq_true rfl) ?_)
  have hcs : cStatics < gC := by
    obtain ⟨mc, ⟨o, _, _, ho, _⟩, _⟩ := id T.nolimit
    exact Nat.lt_of_lt_of_le (Heap.lt_size ho) (Nat.le_trans F.above (Nat.le_of_lt hLC))
  have hK2 : ∀ b o, h₀.get? b = some o → _ := fun b o e => F2.keep b o (FG.keep b o e)
  refine fat_item (N := N') (V := V) rfl (by decide) l1 hcs (statics_live T.nolimit) hnN (fat_at st rfl hG0 (N2 (ga, oG) (by simp)).1 hC0 (N2 (gC, oC) (by simp)).1 hK0 hK2 (T.keeps hK2).nolimit) ?_
  intro v s' hV st' mv hex
  obtain ⟨oC', F3, N3⟩ := moved_news (g := g) (G := GenOnlyQ g) F2 N2 mv hex l1 l2 l3 l5
  obtain ⟨h3, gens3, dr3, tk3, os3⟩ := s'
  have e1 : dr3 = s.drawn := mv.drawn
  have e2 : os3 = s.os := mv.os
  subst e1 e2
  have hg3 : GenOnlyQ g s.gens gens3 := mv.gens
  have hG3 := (N3 (ga, oG) (by simp)).1
  have hC3 := (N3 (gC, oC') (by simp)).1
  have hK3 : ∀ b o, h₀.get? b = some o → h3.get? b = some o := fun b o e => F3.keep b o (FG.keep b o e)
  clear F2 N2 mv hex hK2
  have hall := off_x (od := dictOf [] 0) (oG := oG) (oC := oC') l1 l2 l3 l4
  refine ⟨v, rfl, ?_⟩
  k_steps
  rename Fr h₀ L _ m => F7
  rename News h₀ L _ _ => N7
  exact ret v _ _ oC' _ _ _ hV F7 N7 hg3 (fat_at st' rfl hG3 (N7 _ (.tail _ (.tail _ (.head _)))).1 hC3 (N7 _ (.tail _ (.tail _ (.tail _ (.head _))))).1 hK3 F7.keep (T.keeps F7.keep).nolimit)

set_option maxHeartbeats 1200000 in
theorem nx_first {w : World} {mean : ExcName → Option Value} {mg mb : Str → Option Value} {A₀ : Around} {base h₀ : Heap} {outer : List Env} {L : Addr} {m : Str → Option Value} {s : Shared} {news : List (Addr × Obj)} {Q E : Value → Shared → Prop}
    {gd : Option (List Code)} {cn : Str} {cs' : Scope} {a : Addr} {ccd : Value} {cl : List (Str × Addr)} {p : Program} {loose : List Str}
    (B : Below A₀ base outer h₀) (F : Fr h₀ L s.heap m) (KX : (hd.heap_39 w.params).In h₀) (N : News h₀ L s.heap news) (T : Top p loose mean mg mb h₀) (hk : cs'.kind = .function) (x d ga gC : Addr) (g N' : Nat) (V : Nat → Value → Prop) (t0 t1 t2 t3 : Tok) (oG oC : Obj) {rest : List (Addr × Obj)} (hnews : news = (x, isO d (.ref ga) 0 1 t0 t1 t2 t3) :: (d, dictOf [] 0) :: (ga, oG) :: (gC, oC) :: rest)
    (l1 : gC < ga) (l2 : ga < d) (l3 : d < x) (l4 : ∀ p ∈ rest, p.1 ≠ x) (l5 : ∀ p ∈ rest, p.1 ≠ gC) (hLC : L < gC) (hO : GenO oG g) (hnN : 1 < N')
    (st : FAt Mine.rwS.row.prog w AG ga g gC (liveL h₀) V N' 0 s)
    (ret : ∀ v t0 t1 oC tk h' gens, V 1 v → Fr h₀ L h' m → News h₀ L h' ((x, isO d (.ref ga) (2 : Nat) (2 : Nat) t0 t1 t2 t3) :: (d, dictOf [] 0) :: (ga, oG) :: (gC, oC) :: rest) → GenOnlyQ g s.gens gens →
      FAt Mine.rwS.row.prog w AG ga g gC (liveL h₀) V N' 2 { s with gens := gens, heap := h', toks := tk } → Q v { s with gens := gens, heap := h', toks := tk }) :
    wpAny (model Mine.rwS.row.prog w) (ktrTop 330 70 gd cn cs' L a ccd cl outer) (call (.ref 64) [.ref x]) Q E s := by
  subst hnews
  have hG0 := (N (ga, oG) (by simp)).1
  have hC0 := (N (gC, oC) (by simp)).1
  have hK0 := F.keep
  have hcs : cStatics < gC := by
    obtain ⟨mc, ⟨o, _, _, ho, _⟩, _⟩ := id T.nolimit
    exact Nat.lt_of_lt_of_le (Heap.lt_size ho) (Nat.le_trans F.above (Nat.le_of_lt hLC))
  refine wpAny_call ?_
  k_dflt cell_enter
  rename_i g1 L1 h1 FG F1 N1 B1 X1 T1
  k_steps
  refine Hold.out ?_
  rename Fr _ _ _ _ => F2
  rename News _ _ _ _ => N2
  refine call_nextQ (hO.at (N2 (ga, oG) (by simp)).1) (fat_up rfl (Nat.le_of_ble_eq_true rfl) (Nat.le_of_ble_eq_true rfl) ?_)
  have hK2 : ∀ b o, h₀.get? b = some o → _ := fun b o e => F2.keep b o (FG.keep b o e)
  refine fat_item (N := N') (V := V) rfl (by decide) l1 hcs (statics_live T.nolimit) (Nat.lt_trans Nat.zero_lt_one hnN) (fat_at st rfl hG0 (N2 (ga, oG) (by simp)).1 hC0 (N2 (gC, oC) (by simp)).1 hK0 hK2 (T.keeps hK2).nolimit) ?_
  intro v s' hV st' mv hex
  obtain ⟨oC', F3, N3⟩ := moved_news (g := g) (G := GenOnlyQ g) F2 N2 mv hex l1 l2 l3 l5
  obtain ⟨h3, gens3, dr3, tk3, os3⟩ := s'
  have e1 : dr3 = s.drawn := mv.drawn
  have e2 : os3 = s.os := mv.os
  subst e1 e2
  have hg3 : GenOnlyQ g s.gens gens3 := mv.gens
  have hG3 := (N3 (ga, oG) (by simp)).1
  have hC3 := (N3 (gC, oC') (by simp)).1
  have hK3 : ∀ b o, h₀.get? b = some o → h3.get? b = some o := fun b o e => F3.keep b o (FG.keep b o e)
  clear F2 N2 mv hex hK2
  have hall := off_x (od := dictOf [] 0) (oG := oG) (oC := oC') l1 l2 l3 l4
  refine ⟨v, rfl, ?_⟩
  k_steps
  refine Hold.out ?_
  rename Fr _ _ _ _ => F4
  rename News _ _ _ _ => N4
  refine call_nextQ (hO.at (N4 (ga, oG) (by simp)).1) (fat_up rfl (Nat.le_of_ble_eq_true rfl) (Nat.le_of_ble_eq_true rfl) ?_)
  have hK4 : ∀ b o, h₀.get? b = some o → _ := fun b o e => F4.keep b o (FG.keep b o e)
  refine fat_item (N := N') (V := V) rfl (by decide) l1 hcs (statics_live T.nolimit) hnN (fat_at st' rfl hG3 (N4 (ga, oG) (by simp)).1 hC3 (N4 (gC, oC') (by simp)).1 hK3 hK4 (T.keeps hK4).nolimit) ?_
  intro v2 s' hV2 st2 mv hex
  obtain ⟨oC2, F5, N5⟩ := moved_news (g := g) (G := GenOnlyQ g) F4 N4 mv hex l1 l2 l3 l5
  obtain ⟨h5, gens5, dr5, tk5, os5⟩ := s'
  have e1 : dr5 = s.drawn := mv.drawn
  have e2 : os5 = s.os := mv.os
  subst e1 e2
  have hg5 : GenOnlyQ g s.gens gens5 := hg3.trans mv.gens
  have hG5 := (N5 (ga, oG) (by simp)).1
  have hC5 := (N5 (gC, oC2) (by simp)).1
  have hK5 : ∀ b o, h₀.get? b = some o → h5.get? b = some o := fun b o e => F5.keep b o (FG.keep b o e)
  clear F4 N4 mv hex hK4 st'
  have hall2 := off_x (od := dictOf [] 0) (oG := oG) (oC := oC2) l1 l2 l3 l4
  refine ⟨v2, rfl, ?_⟩
  k_steps
  rename Fr h₀ L _ m => F7
  rename News h₀ L _ _ => N7
  exact ret v2 _ _ oC2 _ _ _ hV2 F7 N7 hg5 (fat_at st2 rfl hG5 (N7 _ (.tail _ (.tail _ (.head _)))).1 hC5 (N7 _ (.tail _ (.tail _ (.tail _ (.head _))))).1 hK5 F7.keep (T.keeps F7.keep).nolimit)
end Mine
end
section -- Ne
example : True := by
  w_top off
  k_with_none
  trivial
open PySem PySem.W PyProof.Rows PySem.Calls
namespace Mine
local macro_rules | `(tactic| walk_at $s:str) => `(tactic| k_extra $s)
example : Mine.rwS = Mine.rwS ∧ hd.heap_39 = hd.heap_39 := by k_fill; exact ⟨rfl, rfl⟩

example : True := by
  k_with "call builtin:next" => ((refine Hold.mk ?_))
  trivial
example : True := by
  k_with "exec Raise none none" => ((refine Hold.mk ?_))
  trivial
local macro_rules | `(tactic| k_upd) => `(tactic| (refine' Upd.head ?a; (case a => with_reducible assumption)))
theorem leaves_held {M : Model} {A : Around} {E : Value → Shared → Prop} {s : Shared} {base : Heap} {env : Env} {outer : List Env} {L e : Addr} {cls a0 : Value} {Q : Unit → Shared → Prop} (hf : env.frame = some L)
    (hh : Heap.HeldW base (env :: outer) e cls a0 L s.heap) (hQ : ∀ h', Heap.FlyingW base outer e cls a0 h' → s.heap.UpToSlots h' → Q () { s with heap := h' }) : wpAny M A (leaving env (.ref e)) Q E s := by
  unfold leaving
  refine wpAny_bind (wpAny_noteFrame_againW hf hh.2.2.2 ?_)
  refine wpAny_landsW hh fun h' hfl hs => ?_
  obtain ⟨k1, k2, ⟨_, _, k3⟩, k4⟩ := hfl
  exact hQ h' ⟨k1, k2, k3, k4⟩ hs
theorem hide_none {h : Heap} {l : List Addr} {b : Addr} (e : h.get? b = none) : (hideAll h l).get? b = none := by
  cases q : (hideAll h l).get? b with
  | none => rfl
  | some o => rw [of_hideAll _ q] at e; cases e
theorem caught_ledger {h₀ hX h' : Heap} {L L1 x e : Addr} {m1 m : Str → Option Value} {ox : Obj} {l : List Env} {cls a0 : Value} (F : Fr h₀ L1 hX m1) (hL : hX.Ns L m) (hL0 : h₀.get? L = none) (hxX : hX.get? x = some ox) (hx : x ≠ L1) (hxL : x ≠ L) (hx0 : h₀.get? x = none)
    (hL1 : h₀.get? L1 = none) (fl : Heap.FlyingW (hideAll hX [L1, L]) l e cls a0 h') (U : hX.UpToSlots h') :
    Fr h₀ L1 h' m1 ∧ h'.Ns L m ∧ ∃ big, News h₀ L1 h' ((x, ox) :: big) ∧ (∀ p ∈ big, p.1 ≠ x) ∧ ∀ b o, b ≠ x → b ≠ L1 → h₀.get? b = none → h'.get? b = some o → (b, o) ∈ big := by
  have h0B : h₀.StaysIn (hideAll hX [L1, L]) := fun b o q => hideAll_get _ (F.keep b o q) (by
    intro hm
    rcases List.mem_cons.mp hm with rfl | hm
    · rw [hL1] at q; cases q
    · rcases List.mem_cons.mp hm with rfl | hm
      · rw [hL0] at q; cases q
      · cases hm)
  refine ⟨F.of_stays (fun b o q => fl.1 b o (h0B b o q)) U, U.ns hL, (allN h₀ L1 h').filter (fun p => decide (p.1 ≠ x)), ?_, ?_, ?_⟩
  · intro p hp
    rcases List.mem_cons.mp hp with rfl | hp
    · exact ⟨fl.1 _ _ (hideAll_get _ hxX (by simp [hx, hxL])), hx, hx0⟩
    · exact allN_news h₀ L1 h' p (List.mem_filter.mp hp).1
  · intro p hp
    simpa using (List.mem_filter.mp hp).2
  · intro b o h1 h2 h3 h4
    exact List.mem_filter.mpr ⟨in_allN.mpr ⟨h4, h2, h3⟩, by simpa using h1⟩
theorem fun_after {B h' h2 : Heap} (K : ∀ b o, B.get? b = none → h'.get? b = some o → (∀ vs, o.data ≠ .fields vs) → ∃ o', h2.get? b = some o' ∧ (∀ vs, o'.data ≠ .fields vs)) : ∀ {l : List Env}, h'.FunFrames B l → h2.FunFrames B l
  | [], _ => trivial
  | _ :: _, ⟨hk, ⟨L, o, hf, hn, ho, hd⟩, hr⟩ => ⟨hk, (let ⟨o', ho', hd'⟩ := K L o hn ho hd; ⟨L, o', hf, hn, ho', hd'⟩), fun_after K hr⟩
theorem flying_after {h₀ B h' h2 : Heap} {L1 x e : Addr} {m1 m2 : Str → Option Value} {ox ox' : Obj} {big : List (Addr × Obj)} {l : List Env} {cls a0 : Value} (F' : Fr h₀ L1 h' m1) (F2 : Fr h₀ L1 h2 m2) (N2 : News h₀ L1 h2 ((x, ox') :: big))
    (hbig : ∀ b o, b ≠ x → b ≠ L1 → h₀.get? b = none → h'.get? b = some o → (b, o) ∈ big) (hBx : B.get? x = some ox) (hBL : B.get? L1 = none) (h0B : h₀.StaysIn B) (fl : Heap.FlyingW B l e cls a0 h') :
    Heap.FlyingW (hideAll B [x]) l e cls a0 h2 ∧ ∀ b o, b ≠ x → b ≠ L1 → h'.get? b = some o → h2.get? b = some o := by
  have keep : ∀ b o, b ≠ x → b ≠ L1 → h'.get? b = some o → h2.get? b = some o := by
    intro b o h1 h2' h3
    cases q : h₀.get? b with
    | none => exact (N2 _ (.tail _ (hbig b o h1 h2' q h3))).1
    | some o' =>
      have := F'.keep b o' q
      rw [h3] at this
      cases this
      exact F2.keep b o q
  have nx : ∀ b, B.get? b = none → b ≠ x := fun b hb q => by rw [q, hBx] at hb; cases hb
  have nL : ∀ b o vs, h'.get? b = some o → o.data = .fields vs → b ≠ L1 := by
    intro b o vs h1 h2' q
    obtain ⟨oL, es, ep, hoL, hdL, _⟩ := F'.ns
    rw [q, hoL] at h1
    cases h1
    rw [hdL] at h2'
    cases h2'
  obtain ⟨x1, x2, x3, oe, vs, T, oT, ts, y1, y2, y3, y4, y5, y6, y7, y8, y9⟩ := fl
  have fb : h2.FunFrames B l := by
    refine fun_after (fun b o hb ho hd => ?_) x3
    by_cases hbL : b = L1
    · subst hbL
      obtain ⟨oL, es, ep, hoL, hdL, _⟩ := F2.ns
      exact ⟨oL, hoL, fun vs q => by rw [hdL] at q; cases q⟩
    · exact ⟨o, keep b o (nx b hb) hbL ho, hd⟩
  refine ⟨?_, keep⟩
  have hs : Heap.FlyingW (hideAll B [x]) l e cls a0 h2 ↔ (hideAll B [x]).StaysIn h2 ∧ (hideAll B [x]).get? e = none ∧ h2.FunFrames (hideAll B [x]) l ∧ h2.TracedW (hideAll B [x]) e cls a0 := Iff.rfl
  refine ⟨fun b o q => ?_, hide_none x2, ?_, oe, vs, T, oT, ts, keep e oe (nx e x2) (nL e oe vs y1 y3) y1, y2, y3, y4, hide_none y5, y6, keep T oT (nx T y5) (nL T oT ts y7 y8) y7, y8, y9⟩
  · have q' := of_hideAll _ q
    refine keep b o ?_ ?_ (x1 b o q')
    · intro e
      subst e
      rw [hideAll_none _ (by simp)] at q
      cases q
    · intro e
      subst e
      rw [hBL] at q'
      cases q'
  · clear y1 y2 y3 y4 y5 y6 y7 y8 y9 hs x3
    induction l with
    | nil => trivial
    | cons env l ih => exact ⟨fb.1, (let ⟨L, o, a, b, c⟩ := fb.2.1; ⟨L, o, a, hide_none b, c⟩), ih fb.2.2⟩
set_option maxHeartbeats 1600000 in
theorem nx_done {w : World} {mean : ExcName → Option Value} {mg mb : Str → Option Value} {A₀ : Around} {h₀ : Heap} {L : Addr} {m : Str → Option Value} {s : Shared} {news : List (Addr × Obj)} {Q E : Value → Shared → Prop}
    {gd : Option (List Code)} {cn : Str} {cs' : Scope} {a : Addr} {ccd : Value} {cl : List (Str × Addr)} {p : Program} {loose : List Str}
    (B : Below A₀ h₀ [] h₀) (F : Fr h₀ L s.heap m) (KX : (hd.heap_39 w.params).In h₀) (N : News h₀ L s.heap news) (T : Top p loose mean mg mb h₀) (hk : cs'.kind = .function)
    (x d ga gC : Addr) (g n : Nat) (V : Nat → Value → Prop) (t0 t1 t2 t3 : Tok) (oG oC : Obj) (hn : n ≤ 100) {rest : List (Addr × Obj)} (hnews : news = (x, isO d (.ref ga) n n t0 t1 t2 t3) :: (d, dictOf [] 0) :: (ga, oG) :: (gC, oC) :: rest)
    (l1 : gC < ga) (l2 : ga < d) (l3 : d < x) (l4 : ∀ p ∈ rest, p.1 ≠ x) (l5 : ∀ p ∈ rest, p.1 ≠ gC) (hLC : L < gC) (hO : GenO oG g)
    (st : FAt Mine.rwS.row.prog w AG ga g gC (liveL h₀) V n n s)
    (ret : ∀ e tk h' gens B a0, Heap.FlyingW B [envX cn cs' L a ccd cl] e (.type "StopIteration") a0 h' → Fr h₀ L h' m → News h₀ L h' rest → GenOnlyQ g s.gens gens → E (.ref e) { s with gens := gens, heap := h', toks := tk }) :
    wpAny (model Mine.rwS.row.prog w) (ktrTop 330 70 gd cn cs' L a ccd cl []) (call (.ref 64) [.ref x]) Q E s := by
  subst hnews
  have hG0 := (N (ga, oG) (by simp)).1
  have hC0 := (N (gC, oC) (by simp)).1
  have hK0 := F.keep
  have TR := topRead_of T
  refine wpAny_call ?_
  k_dflt cell_enter
  rename_i g1 L1 h1 FG F1 N1 B1 X1 T1
  k_steps
  rw [show decide ((n : Int) < (n : Int)) = false from by simp]
  k_steps
  refine Hold.out ?_
  rename Fr _ _ _ _ => F2
  rename News _ _ _ _ => N2
  refine call_nextQ (hO.at (N2 (ga, oG) (by simp)).1) (fat_up rfl (Nat.le_of_ble_eq_true rfl) (Nat.le_of_ble_eq_true rfl) ?_)
  have hK2 : ∀ b o, h₀.get? b = some o → _ := fun b o e => F2.keep b o (FG.keep b o e)
  refine fat_done (N := n) (V := V) rfl (by decide) (fat_at st rfl hG0 (N2 (ga, oG) (by simp)).1 hC0 (N2 (gC, oC) (by simp)).1 hK0 hK2 (T.keeps hK2).nolimit) ?_
  intro s₁ hE e mv hx
  have hLg : L < s.heap.objs.size := let ⟨_, _, _, e, _⟩ := F.ns; Heap.lt_size e
  have keepX : ∀ b o, b ≠ gC → _ := fun b o (hb : b ≠ gC) => mv.heap b o (by simpa using hb)
  have hCL1 : gC ≠ L1 := (N2 (gC, oC) (by simp)).2.1
  have hL0 : h₀.get? L = none := by
    cases q : h₀.get? L with
    | none => rfl
    | some o => exact absurd (Heap.lt_size q) (Nat.not_lt.mpr F.above)
  have hL1g : g1.get? L1 = none := by
    cases q : g1.get? L1 with
    | none => rfl
    | some o => exact absurd (Heap.lt_size q) (Nat.not_lt.mpr F2.above)
  have hL10 : h₀.get? L1 = none := by
    cases q : h₀.get? L1 with
    | none => rfl
    | some o => rw [FG.keep _ _ q] at hL1g; cases hL1g
  have hLL : L ≠ L1 := by
    intro q
    obtain ⟨o, _, _, e, _⟩ := FG.ns
    rw [q, hL1g] at e
    cases e
  have hC00 : h₀.get? gC = none := (N (gC, oC) (by simp)).2.2
  have FX : Fr h₀ L1 s₁.heap _ := ⟨F2.ns.at' fun o e => keepX L1 o (Ne.symm hCL1) e, fun b o e => keepX b o (fun q => by rw [q, hC00] at e; cases e) (hK2 b o e), Nat.le_trans FG.above (Nat.le_trans (Nat.le_of_lt (let ⟨_, _, _, e, _⟩ := FG.ns; Heap.lt_size e)) F2.above)⟩
  have hLX : s₁.heap.Ns L m := (FG.ns.keeps F2.keep).at' fun o e => keepX L o (Nat.ne_of_lt hLC) e
  have hxC : x ≠ gC := Nat.ne_of_gt (Nat.lt_trans l1 (Nat.lt_trans l2 l3))
  have hxX := keepX x _ hxC (N2 (x, isO d (.ref ga) n n t0 t1 t2 t3) (by simp)).1
  have hd1 := keepX d _ (Nat.ne_of_gt (Nat.lt_trans l1 l2)) (N2 (d, dictOf [] 0) (by simp)).1
  have hd2 : d ≠ L1 ∧ d ≠ L ∧ h₀.get? d = none := ⟨(N2 (d, dictOf [] 0) (by simp)).2.1, (N (d, dictOf [] 0) (by simp)).2⟩
  have hxL1 : x ≠ L1 := (N2 (x, isO d (.ref ga) n n t0 t1 t2 t3) (by simp)).2.1
  have hxL : x ≠ L := (N (x, isO d (.ref ga) n n t0 t1 t2 t3) (by simp)).2.1
  have hx0 : h₀.get? x = none := (N (x, isO d (.ref ga) n n t0 t1 t2 t3) (by simp)).2.2
  have hrest : ∀ p ∈ rest, s₁.heap.get? p.1 = some p.2 ∧ p.1 ≠ L1 ∧ p.1 ≠ L ∧ h₀.get? p.1 = none := fun p hp =>
    ⟨keepX p.1 p.2 (l5 p hp) (N2 p (by simp [hp])).1, (N2 p (by simp [hp])).2.1, (N p (by simp [hp])).2.1, (N p (by simp [hp])).2.2⟩
  have hgn : GenOnlyQ g s.gens s₁.gens := mv.gens
  have hnd : ∀ {h : Heap} {b : Addr} {mm : Str → Option Value}, h.Ns b mm → ∃ o, h.get? b = some o ∧ ∀ vs, o.data ≠ .fields vs := fun hns => let ⟨o, _, _, e, hd, _⟩ := hns; ⟨o, e, fun vs q => by rw [hd] at q; cases q⟩
  obtain ⟨h3, gens3, dr3, tk3, os3⟩ := s₁
  have e1 : dr3 = s.drawn := mv.drawn
  have e2 : os3 = s.os := mv.os
  subst e1 e2
  clear mv keepX
  dsimp only at *
  refine caught_here (hX := h3) (h₀ := h₀) (B := hideAll h3 [L1, L]) (outer := [envX cn cs' L a ccd cl]) rfl ?ff (fun b o q => of_hideAll _ q) hx FX ?h0 T.g ?hm T.b ?hv ?k ?pe
  case ff =>
    obtain ⟨o1, a1, b1⟩ := hnd FX.ns
    obtain ⟨o2, a2, b2⟩ := hnd hLX
    exact ⟨(by intro q; cases q), ⟨L1, o1, rfl, hideAll_none _ (by simp), a1, b1⟩, (by rw [show (envX cn cs' L a ccd cl).scope.kind = cs'.kind from rfl, hk]; intro q; cases q), ⟨L, o2, rfl, hideAll_none _ (by simp), a2, b2⟩, trivial⟩
  case h0 =>
    intro b o q
    refine hideAll_get _ (FX.keep b o q) ?_
    intro hm
    rcases List.mem_cons.mp hm with rfl | hm
    · rw [hL10] at q; cases q
    · rcases List.mem_cons.mp hm with rfl | hm
      · rw [hL0] at q; cases q
      · cases hm
  case hm => exact mg_none_of KX T.g (by k_dflt k_is)
  case hv => exact (T.builtins "BaseException" (by decide)).trans (by boot_by_name)
  case pe => passes_own
  case k =>
    intro h' a0 fl U
    obtain ⟨F', hL', big, N', hbig1, hbig2⟩ := caught_ledger FX hLX hL0 hxX hxL1 hxL hx0 hL10 fl U
    have F1' := And.intro F' True.intro
    have hdm : (d, dictOf [] 0) ∈ big := hbig2 d _ (Nat.ne_of_lt l3) hd2.1 hd2.2.2 (fl.1 _ _ (hideAll_get _ hd1 (by simp [hd2.1, hd2.2.1])))
    have N' : News h₀ L1 h' ((x, isO d (.ref ga) n n t0 t1 t2 t3) :: (d, dictOf [] 0) :: big) := fun p hp => by
      rcases List.mem_cons.mp hp with rfl | hp
      · exact N' _ (by simp)
      rcases List.mem_cons.mp hp with rfl | hp
      · exact N' _ (by simp [hdm])
      · exact N' _ (by simp [hp])
    have hbig3 : ∀ p ∈ ((d, dictOf [] 0) :: big), p.1 ≠ x := fun p hp => by
      rcases List.mem_cons.mp hp with rfl | hp
      · exact hbig1 _ hdm
      · exact hbig1 p hp
    have flK := And.intro fl True.intro
    have hK3 := FX.keep
    clear F2 N2 FX
    k_steps
    refine Hold.out ?_
    rename Fr h₀ _ _ _ => F5
    rename News h₀ _ _ _ => N5
    have hBx : (hideAll h3 [L1, L]).get? x = some (isO d (.ref ga) n n t0 t1 t2 t3) := hideAll_get _ hxX (by simp [hxL1, hxL])
    have h0B : h₀.StaysIn (hideAll h3 [L1, L]) := by
      intro b o q
      refine hideAll_get _ (hK3 b o q) ?_
      intro hm
      rcases List.mem_cons.mp hm with rfl | hm
      · rw [hL10] at q; cases q
      · rcases List.mem_cons.mp hm with rfl | hm
        · rw [hL0] at q; cases q
        · cases hm
    obtain ⟨fl2, kp2⟩ := flying_after F1'.1 F5 (news_sub N5 fun p hp => by
      rcases List.mem_cons.mp hp with rfl | hp
      · exact .head _
      · exact .tail _ (.tail _ hp)) hbig2 hBx (hideAll_none _ (by simp)) h0B flK.1
    have hL2 := hL'.at' fun o e => kp2 L o hxL.symm hLL e
    refine raise_bare (L := L1) rfl rfl fl2 fun h4 hheld U4 => ?_
    refine leaves_held rfl hheld fun h5 fl5 U5 => ?_
    have hL5 := U5.ns (U4.ns hL2)
    have hB2 : ∀ b o, b ≠ x → b ≠ L1 → b ≠ L → h3.get? b = some o → h5.get? b = some o := fun b o h1 h2 h3' e => fl5.1 b o (hideAll_get _ (hideAll_get _ e (by simp [h2, h3'])) (by simpa using h1))
    refine ret e _ h5 gens3 _ a0 fl5 ⟨hL5, fun b o q => hB2 b o (fun r => by rw [r, hx0] at q; cases q) (fun r => by rw [r, hL10] at q; cases q) (fun r => by rw [r, hL0] at q; cases q) (hK3 b o q), F.above⟩ ?_ hgn
    intro p hp
    obtain ⟨r1, r2, r3, r4⟩ := hrest p hp
    exact ⟨hB2 p.1 p.2 (l4 p hp) r2 r3 r1, r3, r4⟩
end Mine
end
section -- Wi
example : True := by
  w_top off
  k_with_none
  trivial
open PySem PySem.W PyProof.Rows PySem.Calls
namespace Mine
local macro_rules | `(tactic| walk_at $s:str) => `(tactic| k_extra $s)
example : Mine.rwS = Mine.rwS ∧ hd.heap_39 = hd.heap_39 := by k_fill; exact ⟨rfl, rfl⟩

theorem iter_self {w : World} {mean : ExcName → Option Value} {mg mb : Str → Option Value} {A₀ : Around} {base h₀ : Heap} {outer : List Env} {L : Addr} {m : Str → Option Value} {s : Shared} {news : List (Addr × Obj)} {Q E : Value → Shared → Prop}
    {gd : Option (List Code)} {cn : Str} {cs' : Scope} {a : Addr} {ccd : Value} {cl : List (Str × Addr)} {p : Program} {loose : List Str}
    (B : Below A₀ base outer h₀) (F : Fr h₀ L s.heap m) (KX : (hd.heap_39 w.params).In h₀) (N : News h₀ L s.heap news) (T : Top p loose mean mg mb h₀) (hk : cs'.kind = .function) (x : Addr)
    (ret : ∀ tk h', Fr h₀ L h' m → News h₀ L h' news → Q (.ref x) { s with heap := h', toks := tk }) :
    wpAny (model Mine.rwS.row.prog w) (ktrTop 330 70 gd cn cs' L a ccd cl outer) (call (.ref 57) [.ref x]) Q E s := by
  refine wpAny_call ?_
  k_dflt cell_enter
  k_steps
  rename Fr h₀ L _ m => F7
  rename News h₀ L _ _ => N7
  exact ret _ _ F7 N7
def wC (i : Nat) : Int × Int × Nat := if i = 0 then (0, 1, 0) else (((i + 1 : Nat) : Int), ((i + 1 : Nat) : Int), i + 1)
theorem wC0 : wC 0 = (0, 1, 0) := rfl
theorem wCs (i : Nat) : wC (i + 1) = (((i + 2 : Nat) : Int), ((i + 2 : Nat) : Int), i + 2) := rfl
/-- where an islice object stands after i items -/
structure WJ (prog : Program) (w : World) (h₀ : Heap) (L : Addr) (m : Str → Option Value) (x d ga gC : Addr) (g : Nat) (l : List (List Nat)) (oG : Obj) (rest : List (Addr × Obj)) (s₀ : Shared) (i : Nat) (s : Shared) : Prop where
  led : ∃ oC t0 t1 t2 t3, Fr h₀ L s.heap m ∧ News h₀ L s.heap ((x, isO d (.ref ga) (wC i).1 (wC i).2.1 t0 t1 t2 t3) :: (d, dictOf [] 0) :: (ga, oG) :: (gC, oC) :: rest)
  gens : GenOnlyQ g s₀.gens s.gens
  drawn : s.drawn = s₀.drawn
  os : s.os = s₀.os
  fat : FAt prog w AG ga g gC (liveL h₀) (tV l) l.length (wC i).2.2 s
structure WF (h₀ : Heap) (L : Addr) (m : Str → Option Value) (g : Nat) (rest : List (Addr × Obj)) (s₀ s : Shared) : Prop where
  fr : Fr h₀ L s.heap m
  news : News h₀ L s.heap rest
  gens : GenOnlyQ g s₀.gens s.gens
  drawn : s.drawn = s₀.drawn
  os : s.os = s₀.os
theorem with_S {h₀ h : Heap} {L S : Addr} {oS : Obj} {a b c e : Addr × Obj} {rest : List (Addr × Obj)} (N : News h₀ L h (a :: b :: c :: e :: rest)) (hS : h.get? S = some oS) (h1 : S ≠ L) (h2 : h₀.get? S = none) : News h₀ L h (a :: b :: c :: e :: (S, oS) :: rest) := by
  intro p hp
  simp only [List.mem_cons] at hp
  rcases hp with rfl | rfl | rfl | rfl | rfl | hp
  · exact N _ (by simp)
  · exact N _ (by simp)
  · exact N _ (by simp)
  · exact N _ (by simp)
  · exact ⟨hS, h1, h2⟩
  · exact N _ (by simp [hp])
theorem own_islice {w : World} {mean : ExcName → Option Value} {mg mb : Str → Option Value} {A₀ : Around} {h₀ : Heap} {L : Addr} {m : Str → Option Value} {s₀ : Shared}
    {gd : Option (List Code)} {cn : Str} {cs' : Scope} {a : Addr} {ccd : Value} {cl : List (Str × Addr)} {p : Program} {loose : List Str}
    (B : Below A₀ h₀ [] h₀) (KX : (hd.heap_39 w.params).In h₀) (T : Top p loose mean mg mb h₀) (hk : cs'.kind = .function)
    (x d ga gC S : Addr) (g : Nat) (l : List (List Nat)) (oG : Obj) {rest : List (Addr × Obj)} (hl : 2 ≤ l.length) (hl2 : l.length ≤ 64)
    (l1 : gC < ga) (l2 : ga < d) (l3 : d < x) (l4 : ∀ p ∈ rest, p.1 ≠ x) (l5 : ∀ p ∈ rest, p.1 ≠ gC) (hLC : L < gC) (hO : GenO oG g) (hxS : x < S) (hSL : S ≠ L) (hS0 : h₀.get? S = none) (hSr : ∀ p ∈ rest, p.1 ≠ S) :
    OwnW Mine.rwS.row.prog w ((ktrTop 320 60 gd cn cs' L a ccd cl []).in1.in1) x (.ref 68) S (l.length - 1) (fun i v => tV l (i + 1) v)
      (WJ Mine.rwS.row.prog w h₀ L m x d ga gC g l oG rest s₀) (WF h₀ L m g rest s₀) := by
  have hSx : x ≠ S := Nat.ne_of_lt hxS
  have hSC : gC ≠ S := Nat.ne_of_lt (Nat.lt_trans l1 (Nat.lt_trans l2 (Nat.lt_trans l3 hxS)))
  have hSG : ga ≠ S := Nat.ne_of_lt (Nat.lt_trans l2 (Nat.lt_trans l3 hxS))
  have hSd : d ≠ S := Nat.ne_of_lt (Nat.lt_trans l3 hxS)
  have l4' : ∀ {oS : Obj}, ∀ p ∈ ((S, oS) :: rest), p.1 ≠ x := fun p hp => by
    rcases List.mem_cons.mp hp with rfl | hp
    · exact hSx.symm
    · exact l4 p hp
  have l5' : ∀ {oS : Obj}, ∀ p ∈ ((S, oS) :: rest), p.1 ≠ gC := fun p hp => by
    rcases List.mem_cons.mp hp with rfl | hp
    · exact hSC.symm
    · exact l5 p hp
  have inst : ∀ i s, WJ Mine.rwS.row.prog w h₀ L m x d ga gC g l oG rest s₀ i s → ∃ ox, InstAt s.heap x ox 68 (some (dictOf [] 0)) := fun i s j => by
    obtain ⟨oC, t0, t1, t2, t3, F, N⟩ := j.led
    exact ⟨_, InstAt.of_news N (.head _) (.tail _ (.head _))⟩
  have drop_S : ∀ {h : Heap} {x1 x2 x3 x4 : Addr × Obj} {oS : Obj}, News h₀ L h (x1 :: x2 :: x3 :: x4 :: (S, oS) :: rest) → News h₀ L h (x1 :: x2 :: x3 :: x4 :: rest) ∧ h.get? S = some oS := fun N =>
    ⟨news_sub (news' := _ :: _ :: _ :: _ :: rest) N (fun p hp => by simp only [List.mem_cons] at hp ⊢; rcases hp with h | h | h | h | h <;> simp [h]), (N (S, _) (by simp)).1⟩
  refine ⟨?frame, ?item, ?done, ?self, ?ty, ?nolen, ?nohint⟩
  case frame =>
    intro i s h' tk j hk' _
    obtain ⟨oC, t0, t1, t2, t3, F, N⟩ := j.led
    have F' : Fr h₀ L h' m := ⟨F.ns.at' fun o e => hk' L o hSL.symm e, fun b o e => hk' b o (fun q => by rw [q, hS0] at e; cases e) (F.keep b o e), F.above⟩
    have N' : News h₀ L h' ((x, isO d (.ref ga) (wC i).1 (wC i).2.1 t0 t1 t2 t3) :: (d, dictOf [] 0) :: (ga, oG) :: (gC, oC) :: rest) := fun p hp => by
      refine ⟨hk' _ _ ?_ (N p hp).1, (N p hp).2⟩
      simp only [List.mem_cons] at hp
      rcases hp with rfl | rfl | rfl | rfl | hp
      · exact hSx
      · exact hSd
      · exact hSG
      · exact hSC
      · exact hSr p hp
    exact ⟨⟨oC, t0, t1, t2, t3, F', N'⟩, j.gens, j.drawn, j.os, fat_at j.fat rfl (N (ga, oG) (by simp)).1 (N' (ga, oG) (by simp)).1 (N (gC, oC) (by simp)).1 (N' (gC, oC) (by simp)).1 F.keep F'.keep (T.keeps F'.keep).nolimit⟩
  case ty =>
    intro s j
    obtain ⟨ox, I⟩ := inst 0 s j
    exact I.type
  case nolen =>
    intro s j
    obtain ⟨oC, t0, t1, t2, t3, F, N⟩ := j.led
    exact looks_findIn (KX.keeps F.keep) (by k_dflt k_is)
  case nohint =>
    intro s j
    obtain ⟨oC, t0, t1, t2, t3, F, N⟩ := j.led
    exact looks_findIn (KX.keeps F.keep) (by k_dflt k_is)
  case self =>
    intro s oS Q E j hS hQ
    obtain ⟨ox, I⟩ := inst 0 s j
    obtain ⟨oC, t0, t1, t2, t3, F, N⟩ := j.led
    have N2 := with_S N hS hSL hS0
    refine owit_iter (f := 57) F KX I (by k_dflt k_is) (by k_dflt k_is) ?_
    refine wp_up (A' := ktrTop 330 70 _ _ _ _ _ _ _ _) rfl (Nat.le_of_ble_eq_true rfl) rfl rfl (Nat.le_of_ble_eq_true rfl) ?_
    refine iter_self B F KX N2 T hk x ?_
    intro tk h' F' N'
    have I' : InstAt h' x _ 68 _ := InstAt.of_news N' (.head _) (.tail _ (.head _))
    refine owit_it (s := { s with heap := h', toks := tk }) (g := .ref 64) F' KX I' (by k_dflt k_is) ?_
    obtain ⟨N3, hS3⟩ := drop_S N'
    exact hQ _ ⟨⟨oC, t0, t1, t2, t3, F', N3⟩, j.gens, j.drawn, j.os, fat_at j.fat rfl (N (ga, oG) (by simp)).1 (N3 (ga, oG) (by simp)).1 (N (gC, oC) (by simp)).1 (N3 (gC, oC) (by simp)).1 F.keep F'.keep (T.keeps F'.keep).nolimit⟩ hS3
  case item =>
    intro i s oS Q E hi j hS hQ
    obtain ⟨ox, I⟩ := inst i s j
    obtain ⟨oC, t0, t1, t2, t3, F, N⟩ := j.led
    have N2 := with_S N hS hSL hS0
    refine owit_next (f := 64) F KX I (by k_dflt k_is) (by k_dflt k_is) ?_
    refine wp_up (A' := ktrTop 330 70 _ _ _ _ _ _ _ _) rfl (Nat.le_of_ble_eq_true rfl) rfl rfl (Nat.le_of_ble_eq_true rfl) ?_
    cases i with
    | zero =>
      refine nx_first B F KX N2 T hk x d ga gC g l.length (tV l) t0 t1 t2 t3 oG oC rfl l1 l2 l3 l4' l5' hLC hO (by omega) j.fat ?_
      intro v t0 t1 oC tk h' gens hV F' N' hg st
      obtain ⟨N3, hS3⟩ := drop_S N'
      exact hQ v _ hV ⟨⟨oC, t0, t1, t2, t3, F', N3⟩, j.gens.trans hg, j.drawn, j.os, st⟩ hS3
    | succ i =>
      refine nx_more B F KX N2 T hk x d ga gC g (i + 2) l.length (tV l) t0 t1 t2 t3 oG oC (by omega) rfl l1 l2 l3 l4' l5' hLC hO (by omega) j.fat ?_
      intro v t0 t1 oC tk h' gens hV F' N' hg st
      obtain ⟨N3, hS3⟩ := drop_S N'
      exact hQ v _ hV ⟨⟨oC, t0, t1, t2, t3, F', N3⟩, j.gens.trans hg, j.drawn, j.os, st⟩ hS3
  case done =>
    intro s oS Q E j hS hQ
    obtain ⟨ox, I⟩ := inst _ s j
    obtain ⟨oC, t0, t1, t2, t3, F, N⟩ := j.led
    have N2 := with_S N hS hSL hS0
    refine owit_next (f := 64) F KX I (by k_dflt k_is) (by k_dflt k_is) ?_
    refine wp_up (A' := ktrTop 330 70 _ _ _ _ _ _ _ _) rfl (Nat.le_of_ble_eq_true rfl) rfl rfl (Nat.le_of_ble_eq_true rfl) ?_
    obtain ⟨n, hn⟩ : ∃ n, l.length = n + 2 := ⟨l.length - 2, by omega⟩
    have e1 : l.length - 1 = n + 1 := by omega
    have fat := j.fat
    rw [e1, wCs, hn] at fat
    rw [e1, wCs] at N2
    refine nx_done B F KX N2 T hk x d ga gC g (n + 2) (tV l) t0 t1 t2 t3 oG oC (by omega) rfl l1 l2 l3 l4' l5' hLC hO fat ?_
    intro e tk h' gens B' a0 fl F' N' hg
    refine stop_seen fl (hQ _ ⟨F', news_sub N' (fun p hp => .tail _ hp), j.gens.trans hg, j.drawn, j.os⟩ (N' _ (.head _)).1)
end Mine
end
section -- Wl
example : True := by
  w_top off
  k_with_none
  trivial
open PySem PySem.W PyProof.Rows PySem.Calls
namespace Mine
local macro_rules | `(tactic| walk_at $s:str) => `(tactic| k_extra $s)
example : Mine.rwS = Mine.rwS ∧ hd.heap_39 = hd.heap_39 := by k_fill; exact ⟨rfl, rfl⟩

theorem parents_drain {w : World} {mean : ExcName → Option Value} {mg mb : Str → Option Value} {A₀ : Around} {h₀ : Heap} {L : Addr} {m : Str → Option Value} {s : Shared} {Q E : Value → Shared → Prop}
    {gd : Option (List Code)} {cn : Str} {cs' : Scope} {a : Addr} {ccd : Value} {cl : List (Str × Addr)} {p : Program} {loose : List Str}
    (B : Below A₀ h₀ [] h₀) (F : Fr h₀ L s.heap m) (KX : (hd.heap_39 w.params).In h₀) (T : Top p loose mean mg mb h₀) (hk : cs'.kind = .function)
    (x d ga gC : Addr) (g : Nat) (l : List (List Nat)) (t0 t1 t2 t3 : Tok) (oG oC : Obj) {rest : List (Addr × Obj)} (N : News h₀ L s.heap ((x, isO d (.ref ga) 0 1 t0 t1 t2 t3) :: (d, dictOf [] 0) :: (ga, oG) :: (gC, oC) :: rest)) (hl : 2 ≤ l.length) (hl2 : l.length ≤ 64)
    (l1 : gC < ga) (l2 : ga < d) (l3 : d < x) (l4 : ∀ p ∈ rest, p.1 < gC) (hLC : L < gC) (hO : GenO oG g) (hbare : ∀ z ∈ s.gens, z.bare = true)
    (fat : FAt Mine.rwS.row.prog w AG ga g gC (liveL h₀) (tV l) l.length 0 s)
    (ret : ∀ q vs n h' tk gens', StrsAre vs ((l.drop 1).map St) → Fr h₀ L h' m → News h₀ L h' ((q, listOf vs.toArray n) :: rest) → (∀ z ∈ gens', z.bare = true) → Q (.ref q) { s with gens := gens', toks := tk, heap := h' }) :
    wpAny (model Mine.rwS.row.prog w) (ktrTop 320 60 gd cn cs' L a ccd cl []) (call (.type "list") [.ref x]) Q E s := by
  have hxs := Heap.lt_size (N _ (.head _)).1
  have hSL : s.heap.objs.size ≠ L := Nat.ne_of_gt (let ⟨_, _, _, e, _⟩ := F.ns; Heap.lt_size e)
  have hS0 : h₀.get? s.heap.objs.size = none := Heap.get?_none_of_le (Nat.le_trans F.above (Nat.le_of_lt (let ⟨_, _, _, e, _⟩ := F.ns; Heap.lt_size e)))
  have hrl : ∀ p ∈ rest, p.1 ≠ s.heap.objs.size := fun p hp => Nat.ne_of_lt (Heap.lt_size (N p (by simp [hp])).1)
  have hlx : ∀ p ∈ rest, p.1 ≠ x := fun p hp => Nat.ne_of_lt (Nat.lt_trans (l4 p hp) (Nat.lt_trans l1 (Nat.lt_trans l2 l3)))
  have hlC : ∀ p ∈ rest, p.1 ≠ gC := fun p hp => Nat.ne_of_lt (l4 p hp)
  have W := own_islice (w := w) (gd := gd) (cn := cn) (cs' := cs') (a := a) (ccd := ccd) (cl := cl) (L := L) (m := m) (s₀ := s) B KX T hk x d ga gC s.heap.objs.size g l oG (rest := rest) hl hl2 l1 l2 l3 hlx hlC hLC hO hxs hSL hS0 hrl
  have F' : Fr h₀ L (s.heap.push { cls := .type "list", data := .seq #[] }) m := F.push _
  have N' : News h₀ L (s.heap.push { cls := .type "list", data := .seq #[] }) ((x, isO d (.ref ga) 0 1 t0 t1 t2 t3) :: (d, dictOf [] 0) :: (ga, oG) :: (gC, oC) :: rest) := fun p hp => ⟨Heap.get?_push_of_some _ (N p hp).1, (N p hp).2⟩
  refine own_list W (by intro q; cases q) (by intro q; cases q) hxs ?st ?fin (Nat.le_trans (Nat.sub_le _ _) (Nat.le_trans hl2 (by decide)))
  case st =>
    exact ⟨⟨oC, t0, t1, t2, t3, F', N'⟩, .inl rfl, rfl, rfl, fat_at fat rfl (N (ga, oG) (by simp)).1 (N' (ga, oG) (by simp)).1 (N (gC, oC) (by simp)).1 (N' (gC, oC) (by simp)).1 F.keep F'.keep (T.keeps F'.keep).nolimit⟩
  case fin =>
    intro s' acc' c' hf hS hacc
    obtain ⟨f1, f2, f3, f4, f5⟩ := hf
    obtain ⟨h', gens', dr', tk', os'⟩ := s'
    have e1 : dr' = s.drawn := f4
    have e2 : os' = s.os := f5
    subst e1 e2
    refine ret s.heap.objs.size acc'.toList c' h' tk' gens' (strs_of (l.drop 1) _ (by simpa using hacc.1) fun j v hj => ?_) f1 ?_ (f3.bare hbare)
    · obtain ⟨t, e⟩ := hacc.2 j v (by simpa using hj)
      refine ⟨t, ?_⟩
      rw [e, List.getD_eq_getElem?_getD, List.getD_eq_getElem?_getD, List.getElem?_drop, Nat.add_comm 1 j]
    · intro p hp
      rcases List.mem_cons.mp hp with rfl | hp
      · exact ⟨hS, hSL, hS0⟩
      · exact f2 p hp
end Mine
end
section -- Cl
example : True := by
  w_top off
  k_with_none
  trivial
open PySem PySem.W PyProof.Rows PySem.Calls
namespace Mine
local macro_rules | `(tactic| walk_at $s:str) => `(tactic| k_extra $s)
example : Mine.rwS = Mine.rwS ∧ hd.heap_39 = hd.heap_39 := by k_fill; exact ⟨rfl, rfl⟩

theorem strs_cut_at {vs : List Value} {l : List (List Nat)} (h : StrsAre vs (l.map St)) : ∀ (i : Nat) (v : Value), vs[i]? = some v → ∃ (k : List Nat) (t : Tok), l[i]? = some k ∧ v = Value.str (St k) t := by
  induction l generalizing vs with
  | nil => cases h; intro i v e; simp at e
  | cons a l ih =>
    cases h with
    | cons _ t r =>
      intro i v e
      cases i with
      | zero => exact ⟨a, t, rfl, (Option.some.inj e).symm⟩
      | succ i => exact ih r i v (by simpa using e)
section
variable {prog : Program} {w : World} {A : Around} {h₀ : Heap} {L : Addr} {m : Str → Option Value} {env : Env} {elt : Expr} {x : Str} {scope : Scope} {cl : List (Str × Addr)} {s : Shared} {S : List (Addr × Obj) → Prop} {Fin : List Value → List (Addr × Obj) → Prop} {news : List (Addr × Obj)}
theorem lists_comp {vs : List Value} {l : List (List Nat)} (cut : List Nat → List Int) (hv : StrsAre vs (l.map St))
    (turn : ∀ k t I oI C oC D m₂ ys nw h tk (E' : Value → Shared → Prop), k ∈ l → LCg.NsObj oC m₂ → m₂ x = some (.str (St k) t) → Fr h₀ L h m → News h₀ L h ((I, oI) :: (C, oC) :: (D, LCg.lst ys) :: nw) → (∀ p ∈ news, p ∈ nw) → LCg.Off3 I C D nw → ((@Ne Nat I C) ∧ (@Ne Nat I D) ∧ (@Ne Nat C D)) →
      wpAny (model prog w) A (eval elt (compEnvC scope cl C env)) (LCg.CompEnd h₀ L m { s with heap := h, toks := tk } I oI C oC D (LCg.lst ys) S (fun y nw' => ∃ r ws n, y = .ref r ∧ IntsAre ws (cut k) ∧ nw' = (r, listOf ws.toArray n) :: nw)) E' { s with heap := h, toks := tk })
    (fin : ∀ ys nw, ListsAre nw ys (l.map cut) → (∀ p ∈ news, p ∈ nw) → Fin ys nw) :
    LCg.CompRest prog w A h₀ L m env elt x scope cl s S (fun i v => vs.toArray[i]? = some v) Fin vs.toArray.size 0 [] news := by
  have hl : vs.length = l.length := by have := hv.length; simpa using this
  have key : ∀ (j i : Nat) (ys : List Value) (nw : List (Addr × Obj)), i + j = vs.length → (∀ p ∈ news, p ∈ nw) → ListsAre nw ys ((l.take i).map cut) → LCg.CompRest prog w A h₀ L m env elt x scope cl s S (fun i v => vs.toArray[i]? = some v) Fin j i ys nw := by
    intro j
    induction j with
    | zero =>
      intro i ys nw hi hsub hy
      have e : i = l.length := by omega
      subst e
      rw [List.take_length] at hy
      exact LCg.CompRest.zero (fin ys nw hy hsub)
    | succ j ih =>
      intro i ys nw hi hsub hy
      refine LCg.CompRest.succ ?_
      intro v I oI C oC D m₂ h tk E' hv' hC hx F N off ne
      obtain ⟨k, t, hk, e⟩ := strs_cut_at hv i v (by simpa using hv')
      rw [e] at hx
      refine wpAny_mono (turn k t I oI C oC D m₂ ys nw h tk E' (List.mem_of_getElem? hk) hC hx F N hsub off ne) (fun y s₂ hq => ?_) fun _ _ e => e
      obtain ⟨h', tk', nw', e', F', N', off', hS, r, ws, n, hy', hI, hn⟩ := hq
      refine ⟨h', tk', nw', e', F', N', off', hS, ?_⟩
      subst hn hy'
      refine ih (i + 1) _ _ (by omega) (fun p hp => List.mem_cons_of_mem _ (hsub p hp)) ?_
      rw [List.take_add_one, hk]
      rw [List.map_append]
      exact (hy.mono fun p hp => List.mem_cons_of_mem _ hp).snoc (.head _) hI
  rw [List.size_toArray]
  exact key vs.length 0 [] news (by omega) (fun _ h => h) .nil
end
theorem mem_aR_len : ∀ (ys pre : List Nat), ∀ a ∈ aR pre ys, a.length ≤ pre.length + ys.length
  | [], _, a, h => by simp [aR] at h
  | c :: r, pre, a, h => by
    rw [aR_cons] at h
    rcases List.mem_append.mp h with h | h
    · have := mem_aR_len r (pre ++ [c]) a h
      simp at this ⊢
      omega
    · split at h
      · simp at h; subst h; simp
      · simp at h
end Mine
end
section -- Eq
example : True := by
  w_top off
  k_with_none
  trivial
open PySem PySem.W PyProof.Rows PySem.Calls
namespace Mine
local macro_rules | `(tactic| walk_at $s:str) => `(tactic| k_extra $s)
example : Mine.rwS = Mine.rwS ∧ hd.heap_39 = hd.heap_39 := by k_fill; exact ⟨rfl, rfl⟩

open PySem.Spec PySem.SeqAt
theorem lists_read {h : Heap} {led : List (Addr × Obj)} (N : ∀ p ∈ led, h.get? p.1 = some p.2) {hvs : List Value} {nss : List (List Int)} (x : ListsAre led hvs nss) : ∃ as, ReadsAll h hvs (nss.map fun ns => PyData.list (ns.map PyData.int)) as := by
  induction x with
  | nil => exact ⟨_, .nil⟩
  | cons hm hi _ ih =>
    obtain ⟨as, ih⟩ := ih
    exact ⟨_, .cons (reads_newData ⟨_, N _ hm, rfl, _, rfl⟩ (ke_carried hi)) ih⟩
theorem lists_shaped (nss : List (List Int)) : SeqAt.shaped (.list (nss.map fun ns => PyData.list (ns.map PyData.int))) = true := by
  have h1 : ∀ l : List (List Int), PyData.canLayAll0 (l.map fun ns => PyData.list (ns.map PyData.int)) = true := by
    intro l
    induction l with
    | nil => rfl
    | cons a r ih => simp [PyData.canLayAll0, PyData.canLay0, ke_canLayAll0, ih]
  have h2 : ∀ l : List (List Int), PyData.depthAll (l.map fun ns => PyData.list (ns.map PyData.int)) ≤ 1 := by
    intro l
    induction l with
    | nil => simp [PyData.depthAll]
    | cons a r ih => simp [PyData.depthAll, PyData.depth, ke_depthAll, ih]; try omega
  have h3 := h2 nss
  have h4 : (PyData.list (nss.map fun ns => PyData.list (ns.map PyData.int))).depth ≤ 64 := by
    rw [PyData.depth]
    exact Nat.le_trans (Nat.succ_le_succ h3) (by decide)
  simp only [SeqAt.shaped, PyData.canLay0, h1, Bool.true_and, decide_eq_true_eq]
  exact h4
theorem lists_eqv : ∀ nss : List (List Int), PyData.eqvAll (nss.map fun ns => PyData.list (ns.map PyData.int)) (nss.map fun ns => PyData.list (ns.map PyData.int)) = true
  | [] => by simp [PyData.eqvAll]
  | a :: r => by simp [PyData.eqvAll, PyData.eqv, ked_eqvAll, lists_eqv r]
theorem strs_shaped (ys : List Str) (hok : ∀ y ∈ ys, PyData.strOk y = true) : SeqAt.shaped (.list (ys.map PyData.str)) = true := by
  have h1 : ∀ l : List Str, (∀ y ∈ l, PyData.strOk y = true) → PyData.canLayAll0 (l.map PyData.str) = true := by
    intro l
    induction l with
    | nil => intro _; rfl
    | cons a r ih => intro h; simp [PyData.canLayAll0, PyData.canLay0, ih fun y hy => h y (List.mem_cons_of_mem _ hy), h a (.head _)]
  have h1 := h1 ys hok
  have h2 : ∀ l : List Str, PyData.depthAll (l.map PyData.str) = 0 := by
    intro l
    induction l with
    | nil => rfl
    | cons a r ih => simp [PyData.depthAll, PyData.depth, ih]
  simp [SeqAt.shaped, PyData.canLay0, PyData.depth, h1, h2]
theorem strs_eqv : ∀ ys : List Str, PyData.eqvAll (ys.map PyData.str) (ys.map PyData.str) = true
  | [] => by simp [PyData.eqvAll]
  | a :: r => by simp [PyData.eqvAll, PyData.eqv, strs_eqv r]
section
variable {prog : Program} {w : World} {A : Around} {E : Value → Shared → Prop} {s : Shared} {Q : Value → Shared → Prop} {h₀ : Heap} {L : Addr} {led : List (Addr × Obj)}
theorem ne_lists_same {a b : Addr} {ys hvs : List Value} {n1 n2 : Nat} {nss mss : List (List Int)} (N : News h₀ L s.heap led) (ha : (a, listOf ys.toArray n1) ∈ led) (hb : (b, listOf hvs.toArray n2) ∈ led) (LA : ListsAre led ys nss) (LB : ListsAre led hvs mss) (e : nss = mss) (hu : A.units + 64 < cLine)
    (h : Q (.bool false) s) : wpAny (model prog w) A (compareOp .NotEq (.ref a) (.ref b)) Q E s := by
  subst e
  obtain ⟨as, ra⟩ := lists_read (fun p hp => (N p hp).1) LA
  obtain ⟨bs, rb⟩ := lists_read (fun p hp => (N p hp).1) LB
  refine ne_dataH (reads_list_at (N _ ha).1 rfl rfl ra) (reads_list_at (N _ hb).1 rfl rfl rb) (lists_shaped nss) (lists_shaped nss) hu ?_
  rw [show PyData.eqv (.list (nss.map fun ns => PyData.list (ns.map PyData.int))) (.list (nss.map fun ns => PyData.list (ns.map PyData.int))) = true from by rw [PyData.eqv]; exact lists_eqv nss]
  exact h
theorem ne_strs_same {a b : Addr} {vs ws : List Value} {n1 n2 : Nat} {xs ys : List Str} (N : News h₀ L s.heap led) (ha : (a, listOf vs.toArray n1) ∈ led) (hb : (b, listOf ws.toArray n2) ∈ led) (LA : StrsAre vs xs) (LB : StrsAre ws ys) (e : xs = ys) (hok : ∀ y ∈ xs, PyData.strOk y = true) (hu : A.units + 64 < cLine)
    (h : Q (.bool false) s) : wpAny (model prog w) A (compareOp .NotEq (.ref a) (.ref b)) Q E s := by
  subst e
  refine ne_dataH (reads_list_at (N _ ha).1 rfl rfl (strs_readAll s.heap LA)) (reads_list_at (N _ hb).1 rfl rfl (strs_readAll s.heap LB)) (strs_shaped xs hok) (strs_shaped xs hok) hu ?_
  rw [show PyData.eqv (.list (xs.map PyData.str)) (.list (xs.map PyData.str)) = true from by rw [PyData.eqv]; exact strs_eqv xs]
  exact h
end
theorem ok_St {l : List Nat} (h : ∀ c ∈ l, c ≤ 1114111) : PyData.strOk (St l) = true := by
  show (l.toArray).all (· < 0x110000) = true
  rw [Array.all_eq_true']
  intro c hc
  have := h c (by simpa using hc)
  simp
  omega
theorem mem_aR_sub : ∀ (ys pre : List Nat), ∀ a ∈ aR pre ys, ∀ c ∈ a, c ∈ pre ∨ c ∈ ys
  | [], _, a, h => by simp [aR] at h
  | c :: r, pre, a, h => by
    rw [aR_cons] at h
    intro e he
    rcases List.mem_append.mp h with h | h
    · rcases mem_aR_sub r (pre ++ [c]) a h e he with h | h
      · rcases List.mem_append.mp h with h | h
        · exact .inl h
        · exact .inr (by simp at h; simp [h])
      · exact .inr (.tail _ h)
    · split at h
      · simp at h
        subst h
        rcases List.mem_append.mp he with h | h
        · exact .inl h
        · exact .inr (by simp at h; simp [h])
      · simp at h
theorem aR_ge : ∀ (zs pre t : List Nat), (aR (pre ++ zs) t).length ≤ (aR pre (zs ++ t)).length
  | [], pre, t => by simp
  | c :: r, pre, t => by
    rw [List.cons_append, aR_cons, List.length_append]
    have := aR_ge r (pre ++ [c]) t
    rw [List.append_assoc] at this
    exact Nat.le_trans this (Nat.le_add_right _ _)
theorem aR_two (zs ts : List Nat) : 2 ≤ (aR [] (zs ++ [97, 47, 47, 61, 98, 47, 46, 46, 46, 47, 47, 47, 61, 99] ++ ts)).length := by
  rw [List.append_assoc]
  refine Nat.le_trans ?_ (aR_ge zs [] _)
  simp only [List.cons_append, List.nil_append, aR_cons, List.length_append]
  simp
theorem strs_drop {vs : List Value} {ys : List Str} (h : StrsAre vs ys) (k : Nat) : StrsAre (vs.drop k) (ys.drop k) := by
  induction h generalizing k with
  | nil => simp; exact .nil
  | cons y t r ih =>
    cases k with
    | zero => exact .cons y t r
    | succ k => exact ih k
theorem slice_one {w : World} {prog : Program} {A : Around} {E : Value → Shared → Prop} {s : Shared} {h₀ : Heap} {L : Addr} {m : Str → Option Value} {news : List (Addr × Obj)} {value slice : Expr} {l : Addr} {u : Tok} {n : Nat} {vs : List Value} {ys : List Str} {Q : Value → Shared → Prop}
    (F : Fr h₀ L s.heap m) (N : News h₀ L s.heap news) (hm : (l, listOf vs.toArray n) ∈ news) (hi : StrsAre vs ys) (hz : vs.length ≤ 1000)
    (h : ∀ r vs' h', Fr h₀ L h' m → News h₀ L h' ((r, listOf vs'.toArray 0) :: news) → StrsAre vs' (ys.drop 1) → Q (.ref r) { s with heap := h' })
    (hs : subscripted slice false (.ref l) (.ref s.heap.objs.size) = operate [.ref s.heap.objs.size, .ref l] (getItem (.ref l) (.ref s.heap.objs.size)) := by with_unfolding_all rfl)
    (ht : ∀ r, letTemporaryGo value (.ref l) r = pure () := by intro _; with_unfolding_all rfl) :
    wpAny (model prog w) A (subscriptTail value slice (.ref l) (.ref s.heap.objs.size)) Q E { s with heap := s.heap.push { cls := .type "slice", data := .fields #[.int 1 u, .none, .none] } } := by
  refine slice_list F N (N.isList hm) (.int 1 u) .none (fun h' F' N' => ?_) hs ht (by rw [sizeLine_eq]; simp; omega)
  have e := slicePick_from' vs.toArray 1
  rw [show (((1 : Nat) : Int)) = 1 from rfl] at e
  rw [e] at N'
  exact h _ _ _ F' N' (strs_drop hi 1)
end Mine
end
section -- Cs
example : True := by
  w_top off
  k_with_none
  trivial
open PySem PySem.W PyProof.Rows PySem.Calls
namespace Mine
local macro_rules | `(tactic| walk_at $s:str) => `(tactic| k_extra $s)
example : Mine.rwS = Mine.rwS ∧ hd.heap_39 = hd.heap_39 := by k_fill; exact ⟨rfl, rfl⟩

open LCg LCt
section
variable {prog : Program} {w : World} {A : Around} {E : Value → Shared → Prop} {s : Shared} {h₀ : Heap} {L : Addr} {m : Str → Option Value} {env : Env}
/-- the source of a comprehension over a text -/
def CompSrcS (prog : Program) (w : World) (A : Around) (h₀ : Heap) (L : Addr) (m : Str → Option Value) (env : Env) (ct elt : Expr) (x : Str) (scope : Scope) (cl : List (Str × Addr)) (Q : Value → Shared → Prop) (xv : Value) (s₁ : Shared) : Prop :=
  ∃ z t news, xv = .str z t ∧ A.handled = none ∧ Fr h₀ L s₁.heap m ∧ News h₀ L s₁.heap news ∧ z.cps.size ≤ sizeLine ∧
    ∀ g, CompRestT prog w A h₀ L m env ct elt x scope cl { s₁ with heap := g } (fun _ => True) (SignAt z) (FinE h₀ L m { s₁ with heap := g } Q) z.cps.size 0 [] news
theorem strIter_walks (hh : A.handled = none) (I : Addr) (x : Str) (t : Tok) : Walks prog w A I [I] [I] x.cps.size (SignAt x) (fun i h => h.IsStrIter I (strIterType x) x t i) := by
  unfold strIterType
  split
  · exact Walks.strAscii hh I x t
  · exact Walks.strWide hh I x t
theorem ListComp_TS {ct elt iter : Expr} {x : Str} {px : Pos} {scope : Scope} {cl : List (Str × Addr)} {pos : Pos} {Q : Value → Shared → Prop} (F₀ : Fr h₀ L s.heap m)
    (hclos : closureFor scope env = pure cl) (hcell : ∀ y ∈ scope.names, y.2 ≠ .cell) (hkind : scope.kind = .function)
    (hnames : ∀ y ∈ scope.names, y.2 = .local → scope.names.lookup y.1 = some .local) (hx : scope.names.lookup x = some .local)
    (h : wpAny (model prog w) A (eval iter env) (CompSrcS prog w A h₀ L m env ct elt x scope cl Q) E s)
    (hs : ∀ x, foldedSetIterable iter env x = pure x := by intro _; rfl) :
    wpAny (model prog w) A (eval (.ListComp elt [⟨.Name x px, iter, [ct], 0⟩] scope pos) env) Q E s := by
  rw [eval_ListComp]
  refine wpAny_comprehension_free (use := none) rfl hs hclos hkind hnames (wpAny_mono h (fun xv s₁ h₁ => ?_) fun _ _ e => e)
  obtain ⟨z, t, news, rfl, hh, F, N, hsz, R⟩ := h₁
  refine wpAny_pyIter_strU ?_
  have up : ∀ b o, s₁.heap.get? b = some o → (s₁.heap.push { cls := .type (strIterType z), data := .fields #[.str z t, .int 0 0] }).get? b = some o := fun b o e => Heap.get?_push_of_some _ e
  refine block_T (strIter_walks hh s₁.heap.objs.size z t) hsz (fun i h st => by obtain ⟨o, e, _⟩ := st; exact ⟨o, e⟩) (fun i h h' o nw st e e' _ _ _ => ?_) hcell hkind hx ⟨_, Heap.get?_push_size _ rfl, rfl, rfl⟩ (fun b hb => ?_)
    (F.keeps up) (N.grown up) (Nat.ne_of_lt F.ns.lt) (next_is_new F) (fun p hp => Nat.ne_of_lt (Heap.lt_size (N p hp).1)) trivial (R _) ?_
  · obtain ⟨o', ho', r⟩ := st
    rw [e] at ho'
    cases ho'
    exact ⟨_, e', r⟩
  · rw [List.mem_singleton.mp hb]
    show s₁.heap.objs.size < (s₁.heap.push _).objs.size
    rw [Heap.size_push]; exact Nat.lt_succ_self _
  · intro D C h tk m' ys news' F' N' o1 hn hC₀ hD₀ hCL hDL hCD offC fin
    refine ⟨m', hn, fun h'' hs'' => fin D h'' tk (F'.change hs'' hCL hC₀) (fun p hp => ?_) o1⟩
    refine ⟨hs''.extBut _ _ ?_ (N' p hp).1, (N' p hp).2⟩
    rcases List.mem_cons.mp hp with rfl | hp
    · exact Ne.symm hCD
    · exact offC p hp
/-- the turns of a comprehension with a test that gives texts: what the test says and what the element is -/
theorem strs_comp {x : Str} {ct elt : Expr} {scope : Scope} {cl : List (Str × Addr)} {S : List (Addr × Obj) → Prop} {Fin : List Value → List (Addr × Obj) → Prop} {news : List (Addr × Obj)} {α : Type} {P : Nat → Value → Prop} (l : List α) (val : α → Value → Prop) (keepIf : α → Bool) (f : α → Str)
    (hP : ∀ i v, P i v → ∃ k, l[i]? = some k ∧ val k v) (hS : S news)
    (turn : ∀ k v I oI C oC D m₂ ys h tk (Q : Bool → Shared → Prop) (E' : Value → Shared → Prop), k ∈ l → val k v → NsObj oC m₂ → m₂ x = some v → Fr h₀ L h m → News h₀ L h ((I, oI) :: (C, oC) :: (D, lst ys) :: news) → Off3 I C D news → ((@Ne Nat I C) ∧ (@Ne Nat I D) ∧ (@Ne Nat C D)) →
      (∀ h' tk', Fr h₀ L h' m → News h₀ L h' ((I, oI) :: (C, oC) :: (D, lst ys) :: news) → Q (keepIf k) { s with heap := h', toks := tk' }) →
      wpAny (model prog w) A (isTrue ct (compEnvC scope cl C env) (eval ct (compEnvC scope cl C env))) Q E' { s with heap := h, toks := tk })
    (elem : ∀ k v I oI C oC D m₂ ys h tk (Q : Value → Shared → Prop) (E' : Value → Shared → Prop), k ∈ l → keepIf k = true → val k v → NsObj oC m₂ → m₂ x = some v → Fr h₀ L h m → News h₀ L h ((I, oI) :: (C, oC) :: (D, lst ys) :: news) → Off3 I C D news → ((@Ne Nat I C) ∧ (@Ne Nat I D) ∧ (@Ne Nat C D)) →
      (∀ t h' tk', Fr h₀ L h' m → News h₀ L h' ((I, oI) :: (C, oC) :: (D, lst ys) :: news) → Q (.str (f k) t) { s with heap := h', toks := tk' }) →
      wpAny (model prog w) A (eval elt (compEnvC scope cl C env)) Q E' { s with heap := h, toks := tk })
    (fin : ∀ ys, StrsAre ys ((l.filter keepIf).map f) → Fin ys news) :
    CompRestT prog w A h₀ L m env ct elt x scope cl s S P Fin l.length 0 [] news := by
  have key : ∀ (j i : Nat) (ys : List Value), i + j = l.length → StrsAre ys (((l.take i).filter keepIf).map f) → CompRestT prog w A h₀ L m env ct elt x scope cl s S P Fin j i ys news := by
    intro j
    induction j with
    | zero =>
      intro i ys hi hy
      have e : i = l.length := by omega
      subst e
      rw [List.take_length] at hy
      exact CompRestT.zero (fin ys hy)
    | succ j ih =>
      intro i ys hi hy
      refine CompRestT.succ ?_
      intro v I oI C oC D m₂ h tk E' hv hC hx F N off ne
      obtain ⟨k, hk, hval⟩ := hP i v hv
      have hmem := List.mem_of_getElem? hk
      refine turn k v I oI C oC D m₂ ys h tk _ E' hmem hval hC hx F N off ne fun h' tk' F' N' => ?_
      cases hb : keepIf k with
      | true =>
        rw [if_pos rfl]
        refine elem k v I oI C oC D m₂ ys h' tk' _ E' hmem hb hval hC hx F' N' off ne fun t h2 tk2 F2 N2 => ?_
        refine ⟨h2, tk2, news, rfl, F2, N2, off, hS, ih (i + 1) _ (by omega) ?_⟩
        rw [List.take_add_one, hk]
        simp only [Option.toList_some, List.filter_append, List.map_append]
        rw [show List.filter keepIf [k] = [k] from by simp [hb]]
        exact kct_snoc hy
      | false =>
        rw [if_neg (by simp)]
        refine ⟨h', tk', news, rfl, F', N', off, hS, ih (i + 1) _ (by omega) ?_⟩
        rw [List.take_add_one, hk]
        simp only [Option.toList_some, List.filter_append, List.map_append]
        rw [show List.filter keepIf [k] = [] from by simp [hb]]
        simpa using hy
  exact key l.length 0 [] (by omega) (by simp; exact .nil)
end
theorem cut_bound {xs : List Nat} (h : ∀ c ∈ xs, c ≤ 1114111) {v : Int} (hv : v ∈ cutL xs) (hk : 256 ≤ v) : (v - 256).toNat ≤ 1114111 := by
  refine h _ ?_
  have : (v - 256).toNat ∈ xs.filter (fun c => (ettL [c]).isNone) := by
    rw [← spelt_eq]
    exact List.mem_map.mpr ⟨v, List.mem_filter.mpr ⟨hv, by simpa using hk⟩, rfl⟩
  exact (List.mem_filter.mp this).1
theorem ints_at {vs : List Value} {ns : List Int} (h : IntsAre vs ns) : ∀ (i : Nat) (v : Value), vs[i]? = some v → ∃ k, ns[i]? = some k ∧ ∃ t, v = .int k t := fun i v hv => by
  obtain ⟨k, t, e, hk⟩ := IntsAre.at h i v hv
  exact ⟨k, hk, t, e⟩
theorem sign_at {x : Str} : ∀ (i : Nat) (v : Value), SignAt x i v → ∃ k, (cs x)[i]? = some k ∧ ∃ t, v = .str (St [k]) t := fun i v h => by
  obtain ⟨c, u, e, hv⟩ := h
  exact ⟨c, by rw [← e]; simp [cs], u, hv⟩
end Mine
end
section -- Lh
example : True := by
  w_top off
  k_with_none
  trivial
open PySem PySem.W PyProof.Rows PySem.Calls
namespace Mine
local macro_rules | `(tactic| walk_at $s:str) => `(tactic| k_extra $s)
example : Mine.rwS = Mine.rwS ∧ hd.heap_39 = hd.heap_39 := by k_fill; exact ⟨rfl, rfl⟩

example : True := by
  k_with "eval ListComp" => ((k_here; k_dflt (refine LCg.ListComp_U (F₀ := by k_asm) (by with_unfolding_all rfl) (by decide) (by rfl) (by decide) (by rfl) ?_)))
  trivial
example : True := by
  k_with "CompSrc" => ((k_here; refine Hold.mk ?_))
  trivial
example : True := by
  k_with "call ref" => ((k_here; (with_reducible show wpAny _ _ (call (Value.ref 134) _) _ _ _); first | k_dflt (refine wp_up (A' := ktrTop 400 100 _ _ _ _ _ _ _ _) rfl (Nat.le_of_ble_eq_true rfl) rfl rfl (Nat.le_of_ble_eq_true rfl) (sign_spec (by k_asm) (by k_asm) (by k_asm) (by k_asm) (by k_asm) rfl _ _ ?_); intro t9 tk9 h9 F9 N9; (try dsimp only)) | refine Hold.mk ?_))
  trivial
example : True := by
  k_with "CompEnd" => ((refine Hold.mk ?_))
  trivial
theorem ne_of_data {h₀ h : Heap} {L a b : Addr} {o o' : Obj} {news : List (Addr × Obj)} (N : News h₀ L h news) (ma : (a, o) ∈ news) (mb : (b, o') ∈ news) (hd : o.data ≠ o'.data) : a ≠ b := by
  intro e
  subst e
  have := (N _ ma).1.symm.trans (N _ mb).1
  cases this
  exact hd rfl
theorem aR_len : ∀ (ys pre : List Nat), (aR pre ys).length ≤ ys.length
  | [], _ => Nat.le_refl _
  | c :: r, pre => by
    rw [aR_cons, List.length_append, List.length_cons]
    have := aR_len r (pre ++ [c])
    split <;> simp <;> omega
theorem text_facts (zs ts : List Nat) (hzl : zs.length ≤ 12) (hzc : ∀ c ∈ zs, c ≤ 1114111) (ht2 : ts.length ≤ 2) (ht3 : ∀ c ∈ ts, c = 47) :
    (St zs ++ Str.ofString "a//=b/...///=c" ++ St ts).length ≤ 40 ∧ (∀ c ∈ cs (St zs ++ Str.ofString "a//=b/...///=c" ++ St ts), c ≤ 1114111) ∧ 97 ∈ cs (St zs ++ Str.ofString "a//=b/...///=c" ++ St ts) ∧ 2 ≤ (aR [] (cs (St zs ++ Str.ofString "a//=b/...///=c" ++ St ts))).length := by
  have hx : (St zs ++ Str.ofString "a//=b/...///=c" ++ St ts).length ≤ 40 := by
    rw [Str.length_append, Str.length_append, len_St, len_St]
    have : (Str.ofString "a//=b/...///=c").length = 14 := by decide +kernel
    omega
  have hcs : cs (St zs ++ Str.ofString "a//=b/...///=c" ++ St ts) = zs ++ cs (Str.ofString "a//=b/...///=c") ++ ts := by
    show ((St zs).cps ++ (Str.ofString "a//=b/...///=c").cps ++ (St ts).cps).toList = _
    rw [Array.toList_append, Array.toList_append]
    rfl
  rw [hcs]
  refine ⟨hx, ?_, List.mem_append_left _ (List.mem_append_right _ (by decide +kernel)), (by rw [show cs (Str.ofString "a//=b/...///=c") = [97, 47, 47, 61, 98, 47, 46, 46, 46, 47, 47, 47, 61, 99] from by decide +kernel]; exact aR_two zs ts)⟩
  intro c hc
  rcases List.mem_append.mp hc with hc | hc
  · rcases List.mem_append.mp hc with hc | hc
    · exact hzc c hc
    · have : ∀ c ∈ cs (Str.ofString "a//=b/...///=c"), c ≤ 1114111 := by decide +kernel
      exact this c hc
  · rw [ht3 c hc]; decide
theorem join_sing {α : Type} (f : α → Nat) (l : List α) : Txt.join (Str.ofString "") (l.map fun k => St [f k]) = St (l.map f) := by
  show Builtin.Str.glued (Str.ofString "") _ = _
  rw [StrLaws.glued_eq_join]
  have e : (Str.ofString "") = Str.empty := by decide +kernel
  rw [e]
  have app : ∀ a b : List Nat, St a ++ St b = St (a ++ b) := fun a b => by
    rw [← St_cs (St a ++ St b)]
    congr 1
    show ((St a).cps ++ (St b).cps).toList = _
    simp [St]
  induction l with
  | nil => rfl
  | cons a r ih =>
    cases r with
    | nil => rfl
    | cons b r =>
      rw [List.map_cons, List.map_cons, Str.join]
      · rw [List.map_cons] at ih
        rw [ih, Str.append_empty, app]
        rfl
      · intro h; cases h
example : True := by
  k_with "call ref" => ((k_here; (with_reducible show wpAny _ _ (call (Value.ref 155) _) _ _ _); refine Hold.mk ?_))
  trivial
example : True := by
  k_with "call ref" => ((k_here; (with_reducible show wpAny _ _ (call (Value.ref 127) _) _ _ _); refine Hold.mk ?_))
  trivial
example : True := by
  k_with "call ref" => ((k_here; (with_reducible show wpAny _ _ (call (Value.ref 148) _) _ _ _); refine Hold.mk ?_))
  trivial
example : True := by
  k_with "call ref" => ((k_here; (with_reducible show wpAny _ _ (call (Value.ref 110) _) _ _ _); refine Hold.mk ?_))
  trivial
example : True := by
  k_with "call ref" => ((k_here; (with_reducible show wpAny _ _ (call (Value.ref 162) _) _ _ _); refine Hold.mk ?_))
  trivial
example : True := by
  k_with "call ref" => ((k_here; (with_reducible show wpAny _ _ (call (Value.ref 82) _) _ _ _); refine Hold.mk ?_))
  trivial
example : True := by
  k_with "subscriptTail Name Slice ref ref" => (((with_reducible show wpAny _ _ (subscriptTail _ (Expr.Slice (some _) none _ _) (Value.ref _) _) _ _ _); refine Hold.mk ?_))
  trivial
theorem spelt_filter (l : List Nat) : (List.filter (fun k => !(ett (St [k])).isSome) l).map (fun c => c) = List.filter (fun c => (ettL [c]).isNone) l := by
  rw [List.map_id']
  congr 1
  funext k
  rw [ett_St]
  cases ettL [k] <;> rfl
example : True := by
  k_with "compareOp NotIn str ref" => ((k_here; k_dflt (refine notin_ord (by k_asm) (by k_mem) (by assumption) ?_)))
  trivial
example : True := by
  k_with "eval ListComp" => ((lct_look; refine Hold.mk ?_))
  trivial
example : True := by
  k_with "CompSrcT" => ((refine Hold.mk ?_))
  trivial
example : True := by
  k_with "CompSrcS" => ((refine Hold.mk ?_))
  trivial
theorem fmod3 (n : Nat) : (n : Int).fmod 3 = ((n % 3 : Nat) : Int) := by
  rw [Int.fmod_eq_emod_of_nonneg _ (by decide)]; rfl
theorem of_toNat_le {a : Int} (h : a.toNat ≤ 1114111) : a ≤ 1114111 := by omega
set_option maxHeartbeats 3000000 in
theorem t1 : PySem.Challenge.rw_ij0097_01.Holds := Eq.mpr (congrArg PySem.W.OpenLaw.Holds rwS_eq) <| hd (by
  k_fill
  intro w s₀ s₁ mg mb G Y fa o pm cd doc dV kV ho hd hcd hD hmg hg args vals as LL hpre hlay hrd hwl hlo
  have KX : (Mine.hd.heap_39 w.params).In s₁.heap := by
    rw [frag_eq]
    exact Frag.In.keeps (PySem.W.X.z_facts (fun _ => by kernel_rfl) Y).2.1 (Laid.keeps LL)
  have X := (Ground.X G).1
  have V := (Ground.X G).2
  try w_nolog (first | (have GL := glob_more (Ground.glob G (by first | k_qdec | decide +kernel) (by first | k_qdec | decide +kernel)) V) | (have GL := glob_more (Ground.glob G (by decide +kernel)) V))
  refine Ground.open G ?_
  intro T B D TE TW
  try (refine guard_noD D (by decide +kernel) ?_; clear D)
  obtain ⟨_, _, M⟩ := bmod_of_top T
  have TA := at_of_top T
  try (obtain ⟨_, _, he, B0⟩ := based_of_top T rfl hmg ho hd; have he' : cd = _ := he; subst he'; clear he)
  clear hmg
  wrow_args hpre hlay hrd hwl hlo
  all_goals
    first | refine callC_kw (enter_call ?_) | refine enter_call ?_ | refine callC_kw (enter_callW ?_) | refine enter_callW ?_ | w_how
    w_top on
    have K0 : Below callerA s₁.heap [] s₁.heap := below_caller _
    w_call any ho hd hcd hD T F
    clear hd TA
    k_drop
    skip
  all_goals try k_fold
  k_steps
  rename Fr _ _ _ _ => F1
  rename News _ _ _ _ => N1
  rename List Int => q
  rename IntsAre _ (List.take 12 q) => I1
  rename (List.take 12 _).length ≤ _ => L1
  refine LCg.CompSrc.ledger rfl F1 N1 (List.Mem.head _) ?sz (fun g => kct_list (fun k => St [signC k]) I1 ?turn ?fin)
  case turn =>
    intro k t I oI C oC D m₂ ys h tk E' hk hC hx F N off ne mk
    k_steps
    rename Fr _ _ _ _ => F9
    rename News _ _ _ _ => N9
    exact Hold.out (LCg.CompEnd.intro F9 N9 _ (fun _ h => h) off (.inr ⟨_, List.Mem.head _, rfl, _, rfl⟩) ⟨rfl, _, rfl⟩)
  case sz =>
    show (List.toArray _).size ≤ sizeLine
    rw [List.size_toArray]
    exact Nat.le_trans (Nat.le_of_eq (ints_len I1)) (Nat.le_trans (List.length_take_le 12 _) (by decide))
  case fin =>
    intro ys hc hl D h tk F N off
    k_steps
    show wpAny _ _ (call (.builtin "str.join") [.str (Str.ofString "") _, .ref D]) _ _ _
    have hl12 : ∀ q : List Int, (List.take 12 q).length ≤ 1048576 := fun q => Nat.le_trans (List.length_take_le 12 q) (by decide)
    refine KT.join_1 (News.isList N (List.Mem.head _)) hc (fun a _ => rfl) (hl12 _) ?_
    intro t' k hjl
    clear hjl
    rw [join_sing]
    have hzl : (List.map signC (List.take 12 q)).length ≤ 12 := by rw [List.length_map]; exact List.length_take_le 12 _
    have hzc : ∀ c ∈ (List.map signC (List.take 12 q)), c ≤ 1114111 := by
      intro c hc
      obtain ⟨i, _, rfl⟩ := List.mem_map.mp hc
      exact signC_le i
    revert hzl hzc
    generalize List.map signC (List.take 12 q) = zs
    intro hzl hzc
    have hz : (St zs).length ≤ 12 := by rw [len_St]; exact hzl
    have htail : ∃ ts : List Nat, Txt.slice (Str.ofString "//") (some ((q.length : Int).fmod 3)) none = St ts ∧ ts.length ≤ 2 ∧ ∀ c ∈ ts, c = 47 := by
      have e := fmod3 q.length
      have e2 : cs (Str.ofString "//") = [47, 47] := by decide +kernel
      rw [e, slice_from, e2]
      exact ⟨_, rfl, by rw [List.length_drop]; exact Nat.sub_le _ _, fun c hc => by simpa using List.mem_of_mem_drop hc⟩
    k_steps
    obtain ⟨ts, ht1, ht2, ht3⟩ := htail
    rw [ht1]
    have hz2 : (St ts).length ≤ 2 := by rw [len_St]; exact ht2
    k_steps
    obtain ⟨hx, hxc, hxa, hx2⟩ := text_facts zs ts hzl hzc ht2 ht3
    generalize St zs ++ Str.ofString "a//=b/...///=c" ++ St ts = x at *
    refine Hold.out ?_
    rename Fr _ _ _ _ => F2
    rename News _ _ _ _ => N2
    refine wp_up (A' := ktrTop 400 100 _ _ _ _ _ _ _ _) rfl (Nat.le_of_ble_eq_true rfl) rfl rfl (Nat.le_of_ble_eq_true rfl) ?_
    refine cut_spec K0 F2 KX N2 T rfl x _ hx ?_
    intro r vs n tk h3 F3 N3 I3 hl3 hlt3
    clear F2 N2
    k_steps
    refine Hold.out ?_
    rename Fr _ _ _ _ => F4
    rename News _ _ _ _ => N4
    refine wp_up (A' := ktrTop 400 100 _ _ _ _ _ _ _ _) rfl (Nat.le_of_ble_eq_true rfl) rfl rfl (Nat.le_of_ble_eq_true rfl) ?_
    refine order_spec K0 F4 KX N4 T rfl ?_
    intro ol ovs on tk h5 F5 N5 O5
    clear F4 N4
    rename CellsAre _ _ _ => Y
    obtain ⟨oo, hE, d1⟩ := CellsAre.one Y
    cases hE
    clear Y
    have d2 : _ = Data.cell none := d1
    clear d1
    have n1 := ne_of_data N5 (List.Mem.head _) (.tail _ (.tail _ (.tail _ (.tail _ (.head _))))) (by rw [d2]; intro h; cases h)
    have n2 := ne_of_data N5 (.tail _ (List.Mem.head _)) (.tail _ (.tail _ (.tail _ (.tail _ (.head _))))) (by rw [d2]; intro h; cases h)
    have N5' := news_sub (news' := [_, _, _]) N5 (List.forall_mem_cons.mpr ⟨.head _, List.forall_mem_cons.mpr ⟨.tail _ (.head _), List.forall_mem_cons.mpr ⟨.tail _ (.tail _ (.tail _ (.tail _ (.head _)))), List.forall_mem_nil _⟩⟩⟩)
    clear N5
    refine' storeX_C ?zF ?zN ?zc ?zU ?zd ?_ ?za ?zb
    case za => rfl
    case zb => rfl
    case zF => exact F5
    case zN => exact N5'
    case zc => rfl
    case zU => k_updF
    case zd => exact d2
    intro h6 o6 F6 N6 d6
    try dsimp only at N6
    k_steps
    refine Hold.out ?_
    refine wp_up (A' := ktrTop 410 110 _ _ _ _ _ _ _ _) rfl (Nat.le_of_ble_eq_true rfl) rfl rfl (Nat.le_of_ble_eq_true rfl) ?_
    refine told_spec K0 F6 KX N6 T rfl x _ ol ovs on hx (.head _) O5 ?_
    intro r2 vs2 n2' tk7 h7 F7 N7 I7 hl7
    clear F6 N6
    k_steps
    refine Hold.out ?_
    rename Fr _ _ _ _ => F8
    rename News _ _ _ _ => N8
    refine wp_up (A' := ktrTop 410 110 _ _ _ _ _ _ _ _) rfl (Nat.le_of_ble_eq_true rfl) rfl rfl (Nat.le_of_ble_eq_true rfl) ?_
    refine anc_spec F8 N8 KX T (fun _ _ e => e) F8.above x _ hx ?_
    intro ga gC gg h9 tk9 gs9 oC oG hg9 hCa hlt9 hLC F9 N9 hb9 FA9
    k_steps
    refine wp_up (A' := ktrTop 410 120 _ _ _ _ _ _ _ _) rfl (Nat.le_of_ble_eq_true rfl) rfl rfl (Nat.le_of_ble_eq_true rfl) ?_
    refine drain_list F9 KX N9 T rfl rfl hCa (fun p hp => Nat.ne_of_lt (hlt9 p hp)) hLC (hg9 ▸ FA9) ?_ (Nat.le_trans (aR_len _ _) (by rw [← len_cs]; exact Nat.le_trans hx (by decide))) ?_
    · intro z hz
      rcases Array.mem_push.mp hz with hz | rfl
      · rw [hg] at hz; simp at hz
      · exact hb9
    intro q9 vs9 n9 h10 tk10 gens10 S10 F10 N10 hb10
    k_steps
    refine Hold.out ?_
    rename Fr _ _ _ _ => F11
    rename News _ _ _ _ => N11
    refine LCg.CompSrc.ledger rfl F11 N11 (by first | exact .head _ | exact .tail _ (.head _) | exact .tail _ (.tail _ (.head _))) ?sz2 (fun gq => lists_comp cutL S10 ?turn2 ?fin2)
    case sz2 =>
      show (List.toArray _).size ≤ sizeLine
      rw [List.size_toArray]
      rw [S10.length, List.length_map]
      exact Nat.le_trans (aR_len (cs x) []) (Nat.le_trans (Nat.le_of_eq (len_cs x).symm) (Nat.le_trans hx (by decide)))
    case turn2 =>
      intro k t I oI C oC D m₂ ys nw h tk E' hk hC hx' F N hsub off ne
      have hkl : (St k).length ≤ 40 := by
        have := mem_aR_len (cs x) [] k hk
        rw [len_St]
        rw [← len_cs] at this
        simpa using Nat.le_trans this (by simpa using hx)
      have hkl' := And.intro hkl True.intro
      have hsub' := And.intro hsub True.intro
      clear hsub hkl
      dsimp only
      k_steps
      refine Hold.out ?_
      rename Fr _ _ _ _ => F12
      rename News _ _ _ _ => N12
      refine wp_up (A' := ktrTop 400 100 _ _ _ _ _ _ _ _) rfl (Nat.le_of_ble_eq_true rfl) rfl rfl (Nat.le_of_ble_eq_true rfl) ?_
      refine cut_spec K0 F12 KX N12 T rfl (St k) _ hkl'.1 ?_
      intro r vs n tk h3 F3 N3 I3 hl3 hlt3
      refine LCg.CompEnd.intro F3 N3 ((r, listOf vs.toArray n) :: nw) (fun p hp => ?_) ⟨⟨Ne.symm (Nat.ne_of_lt (hlt3 (I, oI) (by simp))), Ne.symm (Nat.ne_of_lt (hlt3 (C, oC) (by simp))), Ne.symm (Nat.ne_of_lt (hlt3 (D, LCg.lst ys) (by simp)))⟩, off⟩ ?_ ⟨r, vs, n, rfl, I3, rfl⟩
      · simp only [List.mem_cons] at hp ⊢
        rcases hp with h | h | h | h | h <;> simp [h]
      · exact .inr ⟨_, List.mem_cons_of_mem _ (hsub'.1 _ (by first | exact .head _ | exact .tail _ (.head _) | exact .tail _ (.tail _ (.head _)))), rfl, _, rfl⟩
    case fin2 =>
      intro ys nw hLA hsub D h tk F N off
      have hLA' := And.intro hLA True.intro
      have hsub' := And.intro hsub True.intro
      clear hsub hLA
      dsimp only
      k_steps
      refine Hold.out ?_
      rename Fr _ _ _ _ => F13
      rename News _ _ _ _ => N13
      refine wp_up (A' := ktrTop 410 110 _ _ _ _ _ _ _ _) rfl (Nat.le_of_ble_eq_true rfl) rfl rfl (Nat.le_of_ble_eq_true rfl) ?_
      refine heads_spec K0 F13 KX N13 T rfl r vs n (cutL (cs x)) (.tail _ (hsub'.1 _ (by simp))) I3 hl3 ?_
      intro r3 hvs n3 tk14 h14 own F14 N14 hown LA14 hl14
      refine ne_lists_same N14 (.tail _ (hown _ (.head _))) (.head _) (hLA'.1.mono fun p hp => .tail _ (hown _ (.tail _ hp))) (LA14.mono fun p hp => .tail _ hp) (heads_eq (cs x)) (by ke_room) ?_
      have N15 := news_sub (news' := [_, _, _, _]) N14 (List.forall_mem_cons.mpr ⟨.tail _ (hown _ (.tail _ (hsub'.1 _ (.head _)))), List.forall_mem_cons.mpr ⟨.tail _ (hown _ (.tail _ (hsub'.1 _ (.tail _ (.tail _ (.head _)))))), List.forall_mem_cons.mpr ⟨.tail _ (hown _ (.tail _ (hsub'.1 _ (.tail _ (.tail _ (.tail _ (.head _))))))), List.forall_mem_cons.mpr ⟨.tail _ (hown _ (.tail _ (hsub'.1 _ (.tail _ (.tail _ (.tail _ (.tail _ (.head _)))))))), List.forall_mem_nil _⟩⟩⟩⟩)
      clear N13 F13 N14 hown LA14 hl14 hsub' hLA'
      dsimp only
      k_steps
      refine Hold.out ?_
      rename Fr _ _ _ _ => F16
      rename News _ _ _ _ => N16
      refine wp_up (A' := ktrTop 330 60 _ _ _ _ _ _ _ _) rfl (Nat.le_of_ble_eq_true rfl) rfl rfl (Nat.le_of_ble_eq_true rfl) ?_
      refine parents_spec K0 F16 KX N16 T rfl x _ hx ?_
      intro px pd pga pgC pg t0 t1 t2 t3 poG poC tk17 h17 gs17 hpg pl1 pl2 pl3 pl4 pl5 F17 N17 hO17 hb17 FA17
      clear F16 N16
      dsimp only
      k_steps
      refine wp_up (A' := ktrTop 320 60 _ _ _ _ _ _ _ _) rfl (Nat.le_of_ble_eq_true rfl) rfl rfl (Nat.le_of_ble_eq_true rfl) ?_
      refine parents_drain K0 F17 KX T rfl px pd pga pgC pg (aR [] (cs x)) t0 t1 t2 t3 poG poC N17 hx2 (Nat.le_trans (aR_len _ _) (by rw [← len_cs]; exact Nat.le_trans hx (by decide))) pl1 pl2 pl3 pl4 pl5 hO17 ?_ FA17 ?_
      · intro z hz
        rcases Array.mem_push.mp hz with hz | rfl
        · exact hb10 z hz
        · exact hb17
      intro q18 vs18 n18 h18 tk18 gens18 S18 F18 N18 hb18
      have hlen9 : vs9.length ≤ 1000 := by
        rw [S10.length, List.length_map]
        exact Nat.le_trans (aR_len (cs x) []) (Nat.le_trans (Nat.le_of_eq (len_cs x).symm) (Nat.le_trans hx (by decide)))
      have hok18 : ∀ y ∈ (((aR [] (cs x)).drop 1).map St), PyData.strOk y = true := by
        intro y hy
        obtain ⟨a, ha, rfl⟩ := List.mem_map.mp hy
        refine ok_St fun c hc => ?_
        rcases mem_aR_sub (cs x) [] a (List.mem_of_mem_drop ha) c hc with h | h
        · cases h
        · exact hxc c h
      clear F17 N17 FA17
      dsimp only
      k_steps
      refine Hold.out ?_
      refine slice_one (s := ⟨_, _, _, _, _⟩) F18 N18 (.tail _ (.head _)) S10 hlen9 ?_
      intro r19 vs19 h19 F19 N19 S19
      clear F18 N18
      try dsimp only
      refine ne_strs_same N19 (.tail _ (.head _)) (.head _) S18 S19 (by rw [List.map_drop]) hok18 (by ke_room) ?_
      have N20 := news_sub (news' := [_, _, _]) N19 (List.forall_mem_cons.mpr ⟨.tail _ (.tail _ (.tail _ (.head _))), List.forall_mem_cons.mpr ⟨.tail _ (.tail _ (.tail _ (.tail _ (.head _)))), List.forall_mem_cons.mpr ⟨.tail _ (.tail _ (.tail _ (.tail _ (.tail _ (.head _))))), List.forall_mem_nil _⟩⟩⟩)
      clear N19 S18 S19 S10 hok18 hlen9
      try dsimp only
      k_steps
      refine Hold.out ?_
      rename Fr _ _ _ _ => F21
      rename News _ _ _ _ => N21
      refine LCt.ListComp_T (F₀ := F21) (by with_unfolding_all rfl) (by decide) (by rfl) (by decide) (by rfl) ?_
      try dsimp only
      k_steps
      refine Hold.out ?_
      have hvl : vs.toArray.size = (cutL (cs x)).length := by rw [List.size_toArray]; exact I3.length
      refine LCt.CompSrcT.ledger rfl F21 N21 (.tail _ (.head _)) ?sz3 (fun gq => ?_)
      case sz3 =>
        rw [List.size_toArray]
        exact Nat.le_trans hl3 (by decide)
      rw [hvl]
      refine strs_comp (cutL (cs x)) (fun k v => ∃ t, v = .int k t) (fun k => decide (256 ≤ k)) (fun k => St [(k - 256).toNat]) (fun i v hv => ints_at I3 i v (by simpa using hv)) (.inr ⟨_, .tail _ (.head _), rfl, _, rfl⟩) ?turn3 ?elem3 ?fin3
      case turn3 =>
        intro k v I oI C oC D m₂ ys h tk Qb E' hk hval hC hx' F N off ne ret
        obtain ⟨t, rfl⟩ := hval
        clear F21 N21
        try dsimp only
        k_steps
        rename Fr _ _ _ _ => F9
        rename News _ _ _ _ => N9
        exact ret _ _ F9 N9
      case elem3 =>
        intro k v I oI C oC D m₂ ys h tk Qb E' hk hkp hval hC hx' F N off ne ret
        obtain ⟨t, rfl⟩ := hval
        have hk1 : 256 ≤ k := of_decide_eq_true hkp
        have hk2 := cut_bound hxc hk hk1
        have hk3 : k - 256 ≤ 1114111 := of_toNat_le hk2
        have hk4 : 0 ≤ k - 256 := Int.sub_nonneg_of_le hk1
        clear F21 N21
        try dsimp only
        k_steps
        rename Fr _ _ _ _ => F9
        rename News _ _ _ _ => N9
        exact ret _ _ _ F9 N9
      case fin3 =>
        intro ys hS D h tk F N off
        have hc := hS.carried
        rw [List.map_map] at hc
        have hll : (List.filter (fun k => decide (256 ≤ k)) (cutL (cs x))).length ≤ 1048576 := by
          refine Nat.le_trans (List.length_filter_le _ _) ?_
          rw [← hvl, List.size_toArray]
          exact Nat.le_trans hl3 (by decide)
        clear F21 N21 hS
        try dsimp only
        k_steps
        show wpAny _ _ (call (.builtin "str.join") [.str (Str.ofString "") _, .ref D]) _ _ _
        refine KT.join_1 (News.isList N (List.Mem.head _)) hc (fun a _ => rfl) hll ?_
        intro t' k hjl
        clear hjl hc
        rw [join_sing, spelt_eq]
        have N22 := news_sub (news' := [_, _]) N (List.forall_mem_cons.mpr ⟨.tail _ (.head _), List.forall_mem_cons.mpr ⟨.tail _ (.tail _ (.tail _ (.head _))), List.forall_mem_nil _⟩⟩)
        clear N
        try dsimp only
        k_steps
        refine Hold.out ?_
        rename Fr _ _ _ _ => F23
        rename News _ _ _ _ => N23
        refine ListComp_TS (F₀ := F23) (by with_unfolding_all rfl) (by decide) (by rfl) (by decide) (by rfl) ?_
        try dsimp only
        k_steps
        have hcl : x.cps.size = (cs x).length := rfl
        have hsz : x.cps.size ≤ sizeLine := Nat.le_trans (show x.length ≤ 40 from hx) (by decide)
        refine Hold.out ⟨x, _, _, rfl, rfl, F23, N23, hsz, fun gq => ?_⟩
        rw [hcl]
        refine strs_comp (cs x) (fun k v => ∃ t, v = .str (St [k]) t) (fun k => !(ett (St [k])).isSome) (fun k => St [k]) (fun i v hv => sign_at i v hv) trivial ?turn4 ?elem4 ?fin4
        case turn4 =>
          intro k v I oI C oC D m₂ ys h tk Qb E' hk hval hC hx' F N off ne ret
          obtain ⟨t, rfl⟩ := hval
          clear F23 N23
          try dsimp only
          k_steps
          rename Fr _ _ _ _ => F9
          rename News _ _ _ _ => N9
          exact ret _ _ F9 N9
        case elem4 =>
          intro k v I oI C oC D m₂ ys h tk Qb E' hk hkp hval hC hx' F N off ne ret
          obtain ⟨t, rfl⟩ := hval
          clear F23 N23
          try dsimp only
          k_steps
          rename Fr _ _ _ _ => F9
          rename News _ _ _ _ => N9
          exact ret _ _ _ F9 N9
        case fin4 =>
          intro ys hS D h tk F N off
          have hc := hS.carried
          rw [List.map_map] at hc
          have hll : (List.filter (fun k => !(ett (St [k])).isSome) (cs x)).length ≤ 1048576 := by
            refine Nat.le_trans (List.length_filter_le _ _) ?_
            rw [← len_cs]
            exact Nat.le_trans hx (by decide)
          clear F23 N23 hS
          try dsimp only
          k_steps
          show wpAny _ _ (call (.builtin "str.join") [.str (Str.ofString "") _, .ref D]) _ _ _
          refine KT.join_1 (News.isList N (List.Mem.head _)) hc (fun a _ => rfl) hll ?_
          intro t' k hjl
          clear hjl hc
          rw [join_sing (fun c => c), spelt_filter]
          generalize St (List.filter (fun c => (ettL [c]).isNone) (cs x)) = y
          clear hll
          try dsimp only
          k_steps
          rename Fr _ _ _ _ => F9
          rw [show (y == y) = true from by simp]
          refine ⟨.inl ⟨_, .bool true, [], rfl, fun cls => rfl, .bool true, ?post, fun _ => ⟨List.nodup_nil, fun a ha => by cases ha⟩⟩, .of_keep F9.keep, rfl, hb18⟩
          first | rfl | (with_unfolding_all rfl) | (simp; done))
end Mine
end
theorem PySem.Challenge.cw_ij0097_01_holds : PySem.Challenge.rw_ij0097_01.Holds := by
  exact Mine.t1
