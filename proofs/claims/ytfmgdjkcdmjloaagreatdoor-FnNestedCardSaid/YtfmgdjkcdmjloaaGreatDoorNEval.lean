/- FnNested at every number. -/
import Derived.Test.YtfmgdjkcdmjloaaGreatDoorNV0
import Derived.Test.YtfmgdjkcdmjloaaGreatDoorNV1
import Derived.Test.YtfmgdjkcdmjloaaGreatDoorNV2
import Derived.Test.YtfmgdjkcdmjloaaGreatDoorNV3
import Derived.Test.YtfmgdjkcdmjloaaGreatDoorNV4
import Derived.Test.YtfmgdjkcdmjloaaGreatDoorNV5
set_option linter.unusedVariables false
set_option linter.unusedSimpArgs false
namespace Go.Proofs.YtfmgdjkcdmjloaaGreatDoor
theorem nested_ok : ∀ n : Int, okB (goN n) = true
  | .negSucc k => nested_neg k
  | .ofNat 0 => nested0
  | .ofNat 1 => nested1
  | .ofNat 2 => nested2
  | .ofNat 3 => nested3
  | .ofNat 4 => nested4
  | .ofNat 5 => nested5
  | .ofNat 6 => nested6
  | .ofNat 7 => nested7
  | .ofNat 8 => nested8
  | .ofNat 9 => nested9
  | .ofNat 10 => nested10
  | .ofNat 11 => nested11
  | .ofNat 12 => nested12
  | .ofNat 13 => nested13
  | .ofNat 14 => nested14
  | .ofNat 15 => nested15
  | .ofNat 16 => nested16
  | .ofNat 17 => nested17
  | .ofNat 18 => nested18
  | .ofNat 19 => nested19
  | .ofNat 20 => nested20
  | .ofNat 21 => nested21
  | .ofNat 22 => nested22
  | .ofNat 23 => nested23
  | .ofNat 24 => nested24
  | .ofNat 25 => nested25
  | .ofNat 26 => nested26
  | .ofNat 27 => nested27
  | .ofNat 28 => nested28
  | .ofNat 29 => nested29
  | .ofNat 30 => nested30
  | .ofNat 31 => nested31
  | .ofNat 32 => nested32
  | .ofNat 33 => nested33
  | .ofNat 34 => nested34
  | .ofNat 35 => nested35
  | .ofNat 36 => nested36
  | .ofNat 37 => nested37
  | .ofNat 38 => nested38
  | .ofNat 39 => nested39
  | .ofNat 40 => nested40
  | .ofNat 41 => nested41
  | .ofNat 42 => nested42
  | .ofNat 43 => nested43
  | .ofNat 44 => nested44
  | .ofNat 45 => nested45
  | .ofNat 46 => nested46
  | .ofNat 47 => nested47
  | .ofNat 48 => nested48
  | .ofNat 49 => nested49
  | .ofNat 50 => nested50
  | .ofNat 51 => nested51
  | .ofNat 52 => nested52
  | .ofNat 53 => nested53
  | .ofNat 54 => nested54
  | .ofNat 55 => nested55
  | .ofNat 56 => nested56
  | .ofNat 57 => nested57
  | .ofNat 58 => nested58
  | .ofNat 59 => nested59
  | .ofNat 60 => nested60
  | .ofNat (k + 61) => nested_big k
theorem nested_sat (n : Int) : (Go.AM.runT (tab fuel) deep 8 [.int .i64 n] { t := .leaf, next := 0 }).sat fun r => r.1 = .bool true := sat_of_okB (nested_ok n)
end Go.Proofs.YtfmgdjkcdmjloaaGreatDoor
