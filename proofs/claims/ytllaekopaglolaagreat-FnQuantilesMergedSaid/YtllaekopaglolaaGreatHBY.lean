/-
  The logarithmic mapping: looks at the borders between indices. (Printed by gen_chk.py.)
-/
import Derived.Test.YtllaekopaglolaaGreatHAJ
section
namespace Go.Proofs.YtllaekopaglolaaGreat
set_option maxRecDepth 100000
set_option exponentiation.threshold 5000
theorem zPi:zAB (zAF 0 4632233457158529904) (zAL (zAM 0 4632233457158529904)) 4607227454796291112 1 250 0 (-691)=true:=by decide +kernel
theorem zPh:zAB (zAF 0 4632233457158529904) (zAL (zAM 0 4632233457158529904)) 4607227454796291112 1 250 0 (-441)=true:=by decide +kernel
theorem zPg:zAB (zAF 0 4632233457158529904) (zAL (zAM 0 4632233457158529904)) 4607227454796291112 1 250 0 (-191)=true:=by decide +kernel
end Go.Proofs.YtllaekopaglolaaGreat
end
/-
  The logarithmic mapping: looks at the borders between indices. (Printed by gen_chk.py.)
-/
section
namespace Go.Proofs.YtllaekopaglolaaGreat
set_option maxRecDepth 100000
set_option exponentiation.threshold 5000
theorem zPf:zAB (zAF 0 4632233457158529904) (zAL (zAM 0 4632233457158529904)) 4607227454796291112 1 250 0 (59)=true:=by decide +kernel
theorem zPe:zAB (zAF 0 4632233457158529904) (zAL (zAM 0 4632233457158529904)) 4607227454796291112 1 250 0 (309)=true:=by decide +kernel
theorem zPd:zAB (zAF 0 4632233457158529904) (zAL (zAM 0 4632233457158529904)) 4607227454796291112 1 133 0 (559)=true:=by decide +kernel
theorem zPc:zAB (zAF 0 4627729153749871953) (zAL (zAM 0 4627729153749871953)) 4607272490792564818 2 250 0 (-346)=true:=by decide +kernel
end Go.Proofs.YtllaekopaglolaaGreat
end
/-
  The logarithmic mapping: looks at the borders between indices. (Printed by gen_chk.py.)
-/
section
namespace Go.Proofs.YtllaekopaglolaaGreat
set_option maxRecDepth 100000
set_option exponentiation.threshold 5000
theorem zPb:zAB (zAF 0 4627729153749871953) (zAL (zAM 0 4627729153749871953)) 4607272490792564818 2 250 0 (-96)=true:=by decide +kernel
theorem zPa:zAB (zAF 0 4627729153749871953) (zAL (zAM 0 4627729153749871953)) 4607272490792564818 2 193 0 (154)=true:=by decide +kernel
theorem zPZ:zAB (zAF 0 4625383059581160310) (zAL (zAM 0 4625383059581160310)) 4607317526788838522 3 250 0 (-231)=true:=by decide +kernel
theorem zPY:zAB (zAF 0 4625383059581160310) (zAL (zAM 0 4625383059581160310)) 4607317526788838522 3 213 0 (19)=true:=by decide +kernel
end Go.Proofs.YtllaekopaglolaaGreat
end
/-
  The logarithmic mapping: looks at the borders between indices. (Printed by gen_chk.py.)
-/
section
namespace Go.Proofs.YtllaekopaglolaaGreat
set_option maxRecDepth 100000
set_option exponentiation.threshold 5000
theorem zPX:zAB (zAF 0 4623222737870212026) (zAL (zAM 0 4623222737870212026)) 4607362562785112228 4 250 0 (-173)=true:=by decide +kernel
theorem zPW:zAB (zAF 0 4623222737870212026) (zAL (zAM 0 4623222737870212026)) 4607362562785112228 4 97 0 (77)=true:=by decide +kernel
theorem zPV:zAB (zAF 0 4621814423207757742) (zAL (zAM 0 4621814423207757742)) 4607407598781385934 5 250 0 (-139)=true:=by decide +kernel
theorem zPU:zAB (zAF 0 4621814423207757742) (zAL (zAM 0 4621814423207757742)) 4607407598781385934 5 29 0 (111)=true:=by decide +kernel
theorem zPT:zAB (zAF 0 4620875232752534038) (zAL (zAM 0 4620875232752534038)) 4607452634777659638 6 231 0 (-115)=true:=by decide +kernel
end Go.Proofs.YtllaekopaglolaaGreat
end
